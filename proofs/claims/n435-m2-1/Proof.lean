import JvmDerived
import JvmDerived.Pilot.@@N@@Statement
import JvmDerived.Pilot.@@N@@Code
set_option linter.unusedVariables false
set_option linter.unusedSimpArgs false
@@BLOCK:NumsL.lean.txt@@
@@BLOCK:Masks.lean.txt@@
namespace Jvm.Own
open Sem ClassFile Op Lib Jvm.Stand Jvm.Free Jvm.LawKit Jvm.RoadKit
/-! ## A program logic over an abstract heap: references count from the start's heap size. -/
def cv (k : Nat) : Value → Value
  | .ref i => .ref (k + i)
  | v => v
def cs (k : Nat) : Slot → Slot
  | .val v => .val (cv k v)
  | .unset => .unset
  | .second => .second
theorem cv_cat (k : Nat) (v : Value) : (cv k v).category = v.category := by cases v <;> rfl
theorem cv_isRef (k : Nat) (v : Value) : (cv k v).isRef = v.isRef := by cases v <;> rfl
theorem cv_fits (k : Nat) (t : FieldType) (v : Value) : fits t (cv k v) = fits t v := by cases v <;> cases t <;> rfl
theorem cv_narrow (k : Nat) (t : FieldType) (v : Value) : narrow t (cv k v) = cv k (narrow t v) := by cases v <;> cases t <;> rfl
theorem cv_default (k : Nat) (t : FieldType) : cv k (defaultValue t) = defaultValue t := by cases t <;> rfl
theorem cat_map (k : Nat) (S : List Value) : ((S.map (cv k)).map fun v => v.category) = S.map fun v => v.category := by
  rw [List.map_map]; exact List.map_congr_left fun v _ => cv_cat k v
/-- an object: the number of its class, its fields' values; or an array: its kind, its values -/
abbrev ACell := (Nat × List Value) ⊕ (FieldType × List Value)
abbrev AHeap := List ACell
/-- the classes: name, slots, fields (declaring class, name, descriptor, type) -/
abbrev KTab := List (String × Nat × List (String × String × String × FieldType))
/-- a method: name, bytes, max_locals, return type -/
abbrev Mth := MethodName × ByteArray × Nat × Option FieldType
def CellOk (Z : State) (K : KTab) (h : Heap) (a : Addr) : ACell → Prop
  | .inl (c, vs) => ∃ (C : String) (n : Nat) (fs : List (String × String × String × FieldType)), K[c]? = some (C, n, fs) ∧ vs.length = fs.length ∧ Exa Z h a C ∧ ∀ (j : Nat) (f : String × String × String × FieldType) (v : Value), fs[j]? = some f → vs[j]? = some v → Fld Z h a f.1 f.2.1 f.2.2.1 (cv Z.heap.size v)
  | .inr (ty, vs) => ∃ cell : Cell, Arr Z h a cell ty ∧ cell.slots = (vs.map (cv Z.heap.size)).toArray ∧ ∀ v ∈ vs, fits ty v = true
def Rel (Z : State) (K : KTab) (h : Heap) (H : AHeap) : Prop :=
  h.size = Z.heap.size + H.length ∧ ∀ (i : Nat) (c : ACell), H[i]? = some c → CellOk Z K h (Z.heap.size + i) c
def FOk (tb : List Cond) (C : String) (f : String × String × String × FieldType) : Prop :=
  (Cond.lays C f.1 f.2.1 f.2.2.1 ∈ tb ∨ Cond.laysFinal C f.1 f.2.1 f.2.2.1 ∈ tb) ∧ parseFieldDescriptor f.2.2.1 = some f.2.2.2
def KOk (tb : List Cond) (K : KTab) : Prop :=
  ∀ q ∈ K, Cond.instantiable q.1 q.2.1 ∈ tb ∧ (∀ f ∈ q.2.2, FOk tb q.1 f) ∧ (q.2.2.map fun f => f.2.1).Nodup
theorem KOk.nil {tb : List Cond} : KOk tb [] := fun _ h => nomatch h
theorem KOk.cons {tb : List Cond} {K : KTab} {q : String × Nat × List (String × String × String × FieldType)} (h1 : Cond.instantiable q.1 q.2.1 ∈ tb) (h2 : ∀ f ∈ q.2.2, FOk tb q.1 f) (h3 : (q.2.2.map fun f => f.2.1).Nodup) (h : KOk tb K) : KOk tb (q :: K) := fun x hx => by
  rcases List.mem_cons.mp hx with rfl | hx
  · exact ⟨h1, h2, h3⟩
  · exact h x hx
theorem fok0 {tb : List Cond} {C : String} : ∀ f ∈ ([] : List (String × String × String × FieldType)), FOk tb C f := fun _ h => nomatch h
theorem fokS {tb : List Cond} {C : String} {g : String × String × String × FieldType} {L : List (String × String × String × FieldType)} (h1 : FOk tb C g) (h2 : ∀ f ∈ L, FOk tb C f) : ∀ f ∈ g :: L, FOk tb C f := fun f hf => by
  rcases List.mem_cons.mp hf with rfl | hf
  · exact h1
  · exact h2 f hf
/-- where a walk stands -/
def Here (tb : List Cond) (K : KTab) (μ : Mth) (rm : Room) (H : AHeap) (Z : State) (a0 : Array Value) (p : Program) (l : Launch) (e : Env) (R : Room) (s : State) (m : MethodId) (args : Array Value) (below : List Frame) (meth : Method) (c : Code)
    (T : State) (locs : List Loc) (cells slots : Nat) : Prop :=
  Stand p l e R s m args below meth c T locs cells slots ∧ p.tables.exec = Jvm.exec ∧ Z.Warmed39 s.vm ∧ (∀ d ∈ tb, d.before a0 Z = true) ∧ c.code = μ.2.1 ∧ c.maxLocals = μ.2.2.1 ∧ meth.sig.returnType = μ.2.2.2 ∧ meth.name = μ.1.name ∧ meth.locks = false ∧
    s.vm.findClass μ.1.cls = some m.cls ∧ Rel Z K T.heap H ∧ Fr Z.heap.size locs ∧ rm.frames ≤ R.frames ∧ cells + rm.cells ≤ R.cells ∧ slots + rm.slots ≤ R.slots ∧ rm.locals ≤ R.locals
/-- how it ends -/
def Ends (K : KTab) (Q : Option Value → AHeap → Prop) (Z : State) (p : Program) (e : Env) (R : Room) (s : State) (below : List Frame) (T0 : State) : Prop :=
  ∃ (v : Option Value) (H' : AHeap) (T : State) (locs : List Loc) (fs : List Frame), Q v H' ∧ Steps p.tables e below T0 (T.setFrames fs) ∧ (T.setFrames fs).status = .running ∧ Ended (T.setFrames fs) below (.returned (v.map (cv Z.heap.size))) ∧
    s.WarmedH (T.setFrames fs).vm ∧ s.sameButNew ({ T.setFrames fs with vm := s.vm } : State) locs R.cells R.slots ∧ Fr Z.heap.size locs ∧ Rel Z K T.heap H'
/-- from the frame (pc, L, S) over the heap H the body returns, and Q -/
def W (tb : List Cond) (K : KTab) (μ : Mth) (rm : Room) (pc : Nat) (L : List Slot) (S : List Value) (H : AHeap) (Q : Option Value → AHeap → Prop) : Prop :=
  L.length = μ.2.2.1 → ∀ (Z : State) (a0 : Array Value) (p : Program) (l : Launch) (e : Env) (R : Room) (s : State) (m : MethodId) (args : Array Value) (below : List Frame) (meth : Method) (c : Code) (T : State) (locs : List Loc) (cells slots : Nat),
    Here tb K μ rm H Z a0 p l e R s m args below meth c T locs cells slots → Ends K Q Z p e R s below (T.setTop (mkF m pc (L.map (cs Z.heap.size)).toArray (S.map (cv Z.heap.size))))
/-- a call of μ comes back, and Q -/
def M (tb : List Cond) (K : KTab) (μ : Mth) (rm : Room) (as : List Value) (H : AHeap) (Q : Option Value → AHeap → Prop) : Prop :=
  ∀ (Z : State) (a0 : Array Value), (∀ d ∈ tb, d.before a0 Z = true) → ∀ (l : Launch) (h : Heap) (ws : List Cond), Rel Z K h H →
    MetFree l μ.1 (head1 (Cond.code μ.1 μ.2.1 μ.2.2.1 μ.2.2.2 :: ws) rm) (fun a U => a = (as.map (cv Z.heap.size)).toArray ∧ Z.Warmed39 U.vm ∧ U.heap = h) (fun _ _ _ _ _ => True)
      (fun _ U o U' => ∃ v L, o = .returned v ∧ (∃ v' H', v = v'.map (cv Z.heap.size) ∧ Rel Z K U'.heap H' ∧ Q v' H' ∧ Fr Z.heap.size L) ∧ FrameEnd U o U' L rm.cells rm.slots)
section Logic
variable {tb : List Cond} {K : KTab} {μ : Mth} {rm : Room} {pc : Nat} {L : List Slot} {S : List Value} {H : AHeap} {Q Q' : Option Value → AHeap → Prop}
theorem Ends.mono {Z : State} {p : Program} {e : Env} {R : Room} {s : State} {below : List Frame} {T0 : State} (h : Ends K Q Z p e R s below T0) (hq : ∀ v H, Q v H → Q' v H) : Ends K Q' Z p e R s below T0 := by
  obtain ⟨v, H', T, locs, fs, h1, r⟩ := h; exact ⟨v, H', T, locs, fs, hq _ _ h1, r⟩
theorem W.mono (h : W tb K μ rm pc L S H Q) (hq : ∀ v H, Q v H → Q' v H) : W tb K μ rm pc L S H Q' := fun hl Z a0 p l e R s m args below meth c T locs cells slots X => (h hl Z a0 p l e R s m args below meth c T locs cells slots X).mono hq
theorem M.mono {as : List Value} (h : M tb K μ rm as H Q) (hq : ∀ v H, Q v H → Q' v H) : M tb K μ rm as H Q' := fun Z a0 hw l h0 ws hr p e ha hc hk s m args below hf happ hP hK => by
  obtain ⟨n, o, h1, h2, h3, v, L, h4, ⟨v', H', h5, h6, h7, h8⟩, h9⟩ := h Z a0 hw l h0 ws hr p e ha hc hk s m args below hf happ hP hK
  exact ⟨n, o, h1, h2, h3, v, L, h4, ⟨v', H', h5, h6, hq _ _ h7, h8⟩, h9⟩
theorem Ends.steps {Z : State} {p : Program} {e : Env} {R : Room} {s : State} {below : List Frame} {T0 T1 : State} (st : ∀ target, Steps p.tables e below T1 target → Steps p.tables e below T0 target) (h : Ends K Q Z p e R s below T1) : Ends K Q Z p e R s below T0 := by
  obtain ⟨v, H', T, locs, fs, h1, h2, r⟩ := h; exact ⟨v, H', T, locs, fs, h1, st _ h2, r⟩
/-- a step that moves the frame alone -/
theorem W.pure {pc' : Nat} {L' : List Slot} {S' : List Value} (hl : L'.length = L.length)
    (st : ∀ (k : Nat) (p : Program) (e : Env) (m : MethodId) (below : List Frame) (c : Code) (T : State), At T m c below → p.tables.exec = Jvm.exec → c.code = μ.2.1 → ∀ target, Steps p.tables e below (T.setTop (mkF m pc' (L'.map (cs k)).toArray (S'.map (cv k)))) target → Steps p.tables e below (T.setTop (mkF m pc (L.map (cs k)).toArray (S.map (cv k)))) target)
    (h : W tb K μ rm pc' L' S' H Q) : W tb K μ rm pc L S H Q := fun hL Z a0 p l e R s m args below meth c T locs cells slots X =>
  (h (hl.trans hL) Z a0 p l e R s m args below meth c T locs cells slots X).steps (st _ p e m below c T X.1.here X.2.1 X.2.2.2.2.1)
theorem get_conc {k : Nat} {i : Nat} {v : Value} (h : L[i]? = some (.val v)) : (L.map (cs k)).toArray[i]? = some (.val (cv k v)) := by
  simp [h, cs]
theorem W.iload_n {i : Fin 4} {x : Int32} (hd : decode μ.2.1 pc = .ok (.iload_n i, 1)) (hl : L[i.val]? = some (.val (.int x))) (h : W tb K μ rm (pc + 1) L (.int x :: S) H Q) : W tb K μ rm pc L S H Q :=
  W.pure rfl (fun k p e m below c T hA hx hb' t ht => XS.iloadN hA hx rfl (hb hb' hd) (get_conc hl) ht) h
theorem W.iload {i : Nat} {x : Int32} (hd : decode μ.2.1 pc = .ok (.iload i, 2)) (hl : L[i]? = some (.val (.int x))) (h : W tb K μ rm (pc + 2) L (.int x :: S) H Q) : W tb K μ rm pc L S H Q :=
  W.pure rfl (fun k p e m below c T hA hx hb' t ht => XS.iload hA hx rfl (hb hb' hd) (get_conc hl) ht) h
theorem W.lload_n {i : Fin 4} {x : Int64} (hd : decode μ.2.1 pc = .ok (.lload_n i, 1)) (hl : L[i.val]? = some (.val (.long x))) (h : W tb K μ rm (pc + 1) L (.long x :: S) H Q) : W tb K μ rm pc L S H Q :=
  W.pure rfl (fun k p e m below c T hA hx hb' t ht => XS.lloadN hA hx rfl (hb hb' hd) (get_conc hl) ht) h
theorem W.lload {i : Nat} {x : Int64} (hd : decode μ.2.1 pc = .ok (.lload i, 2)) (hl : L[i]? = some (.val (.long x))) (h : W tb K μ rm (pc + 2) L (.long x :: S) H Q) : W tb K μ rm pc L S H Q :=
  W.pure rfl (fun k p e m below c T hA hx hb' t ht => XS.lload hA hx rfl (hb hb' hd) (get_conc hl) ht) h
theorem W.aload_n {i : Fin 4} {v : Value} (hd : decode μ.2.1 pc = .ok (.aload_n i, 1)) (hl : L[i.val]? = some (.val v)) (hv : v.isRef = true) (h : W tb K μ rm (pc + 1) L (v :: S) H Q) : W tb K μ rm pc L S H Q :=
  W.pure rfl (fun k p e m below c T hA hx hb' t ht => XS.aloadN hA hx rfl (hb hb' hd) (get_conc hl) (by rw [cv_isRef]; exact hv) ht) h
theorem W.aload {i : Nat} {v : Value} (hd : decode μ.2.1 pc = .ok (.aload i, 2)) (hl : L[i]? = some (.val v)) (hv : v.isRef = true) (h : W tb K μ rm (pc + 2) L (v :: S) H Q) : W tb K μ rm pc L S H Q :=
  W.pure rfl (fun k p e m below c T hA hx hb' t ht => XS.aload hA hx rfl (hb hb' hd) (get_conc hl) (by rw [cv_isRef]; exact hv) ht) h
theorem W.iadd {x y : Int32} (hd : decode μ.2.1 pc = .ok (.iadd, 1)) (h : W tb K μ rm (pc + 1) L (.int (x + y) :: S) H Q) : W tb K μ rm pc L (.int y :: .int x :: S) H Q :=
  W.pure rfl (fun k p e m below c T hA hx hb' t ht => XS.iadd hA hx rfl (hb hb' hd) rfl ht) h
theorem W.isub {x y : Int32} (hd : decode μ.2.1 pc = .ok (.isub, 1)) (h : W tb K μ rm (pc + 1) L (.int (x - y) :: S) H Q) : W tb K μ rm pc L (.int y :: .int x :: S) H Q :=
  W.pure rfl (fun k p e m below c T hA hx hb' t ht => XS.isub hA hx rfl (hb hb' hd) rfl ht) h
theorem W.imul {x y : Int32} (hd : decode μ.2.1 pc = .ok (.imul, 1)) (h : W tb K μ rm (pc + 1) L (.int (x * y) :: S) H Q) : W tb K μ rm pc L (.int y :: .int x :: S) H Q :=
  W.pure rfl (fun k p e m below c T hA hx hb' t ht => XS.imul hA hx rfl (hb hb' hd) rfl ht) h
theorem W.idiv {x y : Int32} (hd : decode μ.2.1 pc = .ok (.idiv, 1)) (hy : y ≠ 0) (h : W tb K μ rm (pc + 1) L (.int (x / y) :: S) H Q) : W tb K μ rm pc L (.int y :: .int x :: S) H Q :=
  W.pure rfl (fun k p e m below c T hA hx hb' t ht => XS.idiv hA hx rfl (hb hb' hd) rfl hy ht) h
theorem W.irem {x y : Int32} (hd : decode μ.2.1 pc = .ok (.irem, 1)) (hy : y ≠ 0) (h : W tb K μ rm (pc + 1) L (.int (x % y) :: S) H Q) : W tb K μ rm pc L (.int y :: .int x :: S) H Q :=
  W.pure rfl (fun k p e m below c T hA hx hb' t ht => XS.irem hA hx rfl (hb hb' hd) rfl hy (by rw [irem_eq_mod x y]; exact ht)) h
theorem W.ineg {x : Int32} (hd : decode μ.2.1 pc = .ok (.ineg, 1)) (h : W tb K μ rm (pc + 1) L (.int (-x) :: S) H Q) : W tb K μ rm pc L (.int x :: S) H Q :=
  W.pure rfl (fun k p e m below c T hA hx hb' t ht => XS.ineg hA hx rfl (hb hb' hd) rfl ht) h
theorem W.iand {x y : Int32} (hd : decode μ.2.1 pc = .ok (.iand, 1)) (h : W tb K μ rm (pc + 1) L (.int (x &&& y) :: S) H Q) : W tb K μ rm pc L (.int y :: .int x :: S) H Q :=
  W.pure rfl (fun k p e m below c T hA hx hb' t ht => XS.iand hA hx rfl (hb hb' hd) rfl ht) h
theorem W.ior {x y : Int32} (hd : decode μ.2.1 pc = .ok (.ior, 1)) (h : W tb K μ rm (pc + 1) L (.int (x ||| y) :: S) H Q) : W tb K μ rm pc L (.int y :: .int x :: S) H Q :=
  W.pure rfl (fun k p e m below c T hA hx hb' t ht => XT.ior hA hx rfl (hb hb' hd) rfl ht) h
theorem W.ixor {x y : Int32} (hd : decode μ.2.1 pc = .ok (.ixor, 1)) (h : W tb K μ rm (pc + 1) L (.int (x ^^^ y) :: S) H Q) : W tb K μ rm pc L (.int y :: .int x :: S) H Q :=
  W.pure rfl (fun k p e m below c T hA hx hb' t ht => XT.ixor hA hx rfl (hb hb' hd) rfl ht) h
theorem W.ishl {x y : Int32} (hd : decode μ.2.1 pc = .ok (.ishl, 1)) (h : W tb K μ rm (pc + 1) L (.int (x <<< (y &&& 31)) :: S) H Q) : W tb K μ rm pc L (.int y :: .int x :: S) H Q :=
  W.pure rfl (fun k p e m below c T hA hx hb' t ht => XT.ishl hA hx rfl (hb hb' hd) rfl ht) h
theorem W.ishr {x y : Int32} (hd : decode μ.2.1 pc = .ok (.ishr, 1)) (h : W tb K μ rm (pc + 1) L (.int (x >>> (y &&& 31)) :: S) H Q) : W tb K μ rm pc L (.int y :: .int x :: S) H Q :=
  W.pure rfl (fun k p e m below c T hA hx hb' t ht => XT.ishr hA hx rfl (hb hb' hd) rfl ht) h
theorem W.iushr {x y : Int32} (hd : decode μ.2.1 pc = .ok (.iushr, 1)) (h : W tb K μ rm (pc + 1) L (.int (XT.ushr x y) :: S) H Q) : W tb K μ rm pc L (.int y :: .int x :: S) H Q :=
  W.pure rfl (fun k p e m below c T hA hx hb' t ht => XT.iushr hA hx rfl (hb hb' hd) rfl ht) h
theorem W.ladd {x y : Int64} (hd : decode μ.2.1 pc = .ok (.ladd, 1)) (h : W tb K μ rm (pc + 1) L (.long (x + y) :: S) H Q) : W tb K μ rm pc L (.long y :: .long x :: S) H Q :=
  W.pure rfl (fun k p e m below c T hA hx hb' t ht => XT.ladd hA hx rfl (hb hb' hd) rfl ht) h
theorem W.lsub {x y : Int64} (hd : decode μ.2.1 pc = .ok (.lsub, 1)) (h : W tb K μ rm (pc + 1) L (.long (x - y) :: S) H Q) : W tb K μ rm pc L (.long y :: .long x :: S) H Q :=
  W.pure rfl (fun k p e m below c T hA hx hb' t ht => XT.lsub hA hx rfl (hb hb' hd) rfl ht) h
theorem W.lmul {x y : Int64} (hd : decode μ.2.1 pc = .ok (.lmul, 1)) (h : W tb K μ rm (pc + 1) L (.long (x * y) :: S) H Q) : W tb K μ rm pc L (.long y :: .long x :: S) H Q :=
  W.pure rfl (fun k p e m below c T hA hx hb' t ht => XT.lmul hA hx rfl (hb hb' hd) rfl ht) h
theorem W.ldiv {x y : Int64} (hd : decode μ.2.1 pc = .ok (.ldiv, 1)) (hy : y ≠ 0) (h : W tb K μ rm (pc + 1) L (.long (x / y) :: S) H Q) : W tb K μ rm pc L (.long y :: .long x :: S) H Q :=
  W.pure rfl (fun k p e m below c T hA hx hb' t ht => XT.ldiv hA hx rfl (hb hb' hd) rfl hy ht) h
theorem W.land {x y : Int64} (hd : decode μ.2.1 pc = .ok (.land, 1)) (h : W tb K μ rm (pc + 1) L (.long (x &&& y) :: S) H Q) : W tb K μ rm pc L (.long y :: .long x :: S) H Q :=
  W.pure rfl (fun k p e m below c T hA hx hb' t ht => XT.land hA hx rfl (hb hb' hd) rfl ht) h
theorem W.lor {x y : Int64} (hd : decode μ.2.1 pc = .ok (.lor, 1)) (h : W tb K μ rm (pc + 1) L (.long (x ||| y) :: S) H Q) : W tb K μ rm pc L (.long y :: .long x :: S) H Q :=
  W.pure rfl (fun k p e m below c T hA hx hb' t ht => XT.lor hA hx rfl (hb hb' hd) rfl ht) h
theorem W.lxor {x y : Int64} (hd : decode μ.2.1 pc = .ok (.lxor, 1)) (h : W tb K μ rm (pc + 1) L (.long (x ^^^ y) :: S) H Q) : W tb K μ rm pc L (.long y :: .long x :: S) H Q :=
  W.pure rfl (fun k p e m below c T hA hx hb' t ht => XT.lxor hA hx rfl (hb hb' hd) rfl ht) h
theorem W.lshl {x : Int64} {y : Int32} (hd : decode μ.2.1 pc = .ok (.lshl, 1)) (h : W tb K μ rm (pc + 1) L (.long (x <<< (y.toInt64 &&& 63)) :: S) H Q) : W tb K μ rm pc L (.int y :: .long x :: S) H Q :=
  W.pure rfl (fun k p e m below c T hA hx hb' t ht => XT.lshl hA hx rfl (hb hb' hd) rfl ht) h
theorem W.lushr {x : Int64} {y : Int32} (hd : decode μ.2.1 pc = .ok (.lushr, 1)) (h : W tb K μ rm (pc + 1) L (.long (XT.ushrL x y) :: S) H Q) : W tb K μ rm pc L (.int y :: .long x :: S) H Q :=
  W.pure rfl (fun k p e m below c T hA hx hb' t ht => XT.lushr hA hx rfl (hb hb' hd) rfl ht) h
theorem W.lcmp {x y : Int64} (hd : decode μ.2.1 pc = .ok (.lcmp, 1)) (h : W tb K μ rm (pc + 1) L (.int (XT.cmpL x y) :: S) H Q) : W tb K μ rm pc L (.long y :: .long x :: S) H Q :=
  W.pure rfl (fun k p e m below c T hA hx hb' t ht => XT.lcmp hA hx rfl (hb hb' hd) rfl ht) h
theorem W.i2l {x : Int32} (hd : decode μ.2.1 pc = .ok (.i2l, 1)) (h : W tb K μ rm (pc + 1) L (.long x.toInt64 :: S) H Q) : W tb K μ rm pc L (.int x :: S) H Q :=
  W.pure rfl (fun k p e m below c T hA hx hb' t ht => XT.i2l hA hx rfl (hb hb' hd) rfl ht) h
theorem W.l2i {x : Int64} (hd : decode μ.2.1 pc = .ok (.l2i, 1)) (h : W tb K μ rm (pc + 1) L (.int x.toInt32 :: S) H Q) : W tb K μ rm pc L (.long x :: S) H Q :=
  W.pure rfl (fun k p e m below c T hA hx hb' t ht => XT.l2i hA hx rfl (hb hb' hd) rfl ht) h
theorem W.i2b {x : Int32} (hd : decode μ.2.1 pc = .ok (.i2b, 1)) (h : W tb K μ rm (pc + 1) L (.int x.toInt8.toInt32 :: S) H Q) : W tb K μ rm pc L (.int x :: S) H Q :=
  W.pure rfl (fun k p e m below c T hA hx hb' t ht => XT.i2b hA hx rfl (hb hb' hd) rfl ht) h
theorem W.i2c {x : Int32} (hd : decode μ.2.1 pc = .ok (.i2c, 1)) (h : W tb K μ rm (pc + 1) L (.int x.toUInt32.toUInt16.toUInt32.toInt32 :: S) H Q) : W tb K μ rm pc L (.int x :: S) H Q :=
  W.pure rfl (fun k p e m below c T hA hx hb' t ht => XT.i2c hA hx rfl (hb hb' hd) rfl ht) h
theorem W.iconst {i : Int} (hd : decode μ.2.1 pc = .ok (.iconst i, 1)) (h : W tb K μ rm (pc + 1) L (.int (Int32.ofInt i) :: S) H Q) : W tb K μ rm pc L (S) H Q :=
  W.pure rfl (fun k p e m below c T hA hx hb' t ht => XS.iconst hA hx rfl (hb hb' hd) ht) h
theorem W.bipush {i : Int} (hd : decode μ.2.1 pc = .ok (.bipush i, 2)) (h : W tb K μ rm (pc + 2) L (.int (Int8.ofInt i).toInt32 :: S) H Q) : W tb K μ rm pc L (S) H Q :=
  W.pure rfl (fun k p e m below c T hA hx hb' t ht => XS.bipush hA hx rfl (hb hb' hd) ht) h
theorem W.sipush {i : Int} (hd : decode μ.2.1 pc = .ok (.sipush i, 3)) (h : W tb K μ rm (pc + 3) L (.int (Int16.ofInt i).toInt32 :: S) H Q) : W tb K μ rm pc L (S) H Q :=
  W.pure rfl (fun k p e m below c T hA hx hb' t ht => XS.sipush hA hx rfl (hb hb' hd) ht) h
theorem W.lconst {i : Fin 2} (hd : decode μ.2.1 pc = .ok (.lconst i, 1)) (h : W tb K μ rm (pc + 1) L (.long (Int64.ofNat i) :: S) H Q) : W tb K μ rm pc L (S) H Q :=
  W.pure rfl (fun k p e m below c T hA hx hb' t ht => XT.lconst hA hx rfl (hb hb' hd) ht) h
theorem W.aconst_null  (hd : decode μ.2.1 pc = .ok (.aconst_null, 1)) (h : W tb K μ rm (pc + 1) L (.null :: S) H Q) : W tb K μ rm pc L (S) H Q :=
  W.pure rfl (fun k p e m below c T hA hx hb' t ht => XS.aconstNull hA hx rfl (hb hb' hd) ht) h
theorem W.dup {v : Value} (hd : decode μ.2.1 pc = .ok (.dup, 1)) (hc : v.category = 1) (h : W tb K μ rm (pc + 1) L (v :: v :: S) H Q) : W tb K μ rm pc L (v :: S) H Q :=
  W.pure rfl (fun k p e m below c T hA hx hb' t ht => XS.dup hA hx rfl (hb hb' hd) rfl (by rw [cv_cat]; exact hc) ht) h
theorem W.pop {v : Value} (hd : decode μ.2.1 pc = .ok (.pop, 1)) (hc : v.category = 1) (h : W tb K μ rm (pc + 1) L (S) H Q) : W tb K μ rm pc L (v :: S) H Q :=
  W.pure rfl (fun k p e m below c T hA hx hb' t ht => XT.pop hA hx rfl (hb hb' hd) rfl (by rw [cv_cat]; exact hc) ht) h
theorem W.dup_x1 {v w : Value} (hd : decode μ.2.1 pc = .ok (.dup_x1, 1)) (hc : v.category = 1) (hc' : w.category = 1) (h : W tb K μ rm (pc + 1) L (v :: w :: v :: S) H Q) : W tb K μ rm pc L (v :: w :: S) H Q :=
  W.pure rfl (fun k p e m below c T hA hx hb' t ht => XT.dupX1 hA hx rfl (hb hb' hd) rfl (by rw [cv_cat]; exact hc) (by rw [cv_cat]; exact hc') ht) h
theorem W.iconst' {i : Int} {x : Int32} (hd : decode μ.2.1 pc = .ok (.iconst i, 1)) (hx : Int32.ofInt i = x) (h : W tb K μ rm (pc + 1) L (.int x :: S) H Q) : W tb K μ rm pc L S H Q := W.iconst hd (by rw [hx]; exact h)
theorem W.bipush' {i : Int} {x : Int32} (hd : decode μ.2.1 pc = .ok (.bipush i, 2)) (hx : (Int8.ofInt i).toInt32 = x) (h : W tb K μ rm (pc + 2) L (.int x :: S) H Q) : W tb K μ rm pc L S H Q := W.bipush hd (by rw [hx]; exact h)
theorem W.sipush' {i : Int} {x : Int32} (hd : decode μ.2.1 pc = .ok (.sipush i, 3)) (hx : (Int16.ofInt i).toInt32 = x) (h : W tb K μ rm (pc + 3) L (.int x :: S) H Q) : W tb K μ rm pc L S H Q := W.sipush hd (by rw [hx]; exact h)
theorem W.lconst' {i : Fin 2} {x : Int64} (hd : decode μ.2.1 pc = .ok (.lconst i, 1)) (hx : Int64.ofNat i = x) (h : W tb K μ rm (pc + 1) L (.long x :: S) H Q) : W tb K μ rm pc L S H Q := W.lconst hd (by rw [hx]; exact h)
/-- a local of one word -/
def one : Slot → Bool
  | .unset => true
  | .val v => v.category == 1
  | .second => false
theorem cs_one {k : Nat} {o : Slot} (h : one o = true) : cs k o = .unset ∨ ∃ w, cs k o = .val w ∧ w.category = 1 := by
  cases o with
  | unset => exact Or.inl rfl
  | second => cases h
  | val v => exact Or.inr ⟨cv k v, rfl, by rw [cv_cat]; simpa [one] using h⟩
theorem set_conc {k i : Nat} {x : Slot} : (L.map (cs k)).toArray.setIfInBounds i (cs k x) = ((L.set i x).map (cs k)).toArray := by
  simp [List.map_set]
theorem sto1 {k i : Nat} {o : Slot} {v : Value} (hl : L[i]? = some o) (ho : one o = true) (hv : v.category = 1) : storeLocals (L.map (cs k)).toArray i (cv k v) = some ((L.set i (.val v)).map (cs k)).toArray := by
  rw [XS.store1 (o := cs k o) (by simp [hl]) (cs_one ho) (by rw [cv_cat]; exact hv)]
  exact congrArg some (set_conc (x := .val v))
/-- over the first half of a long -/
theorem sto1w {k i : Nat} {w v : Value} (hl : L[i]? = some (.val w)) (ho : w.category = 2) (hi : i + 1 < L.length) (hv : v.category = 1) : storeLocals (L.map (cs k)).toArray i (cv k v) = some (((L.set (i + 1) .unset).set i (.val v)).map (cs k)).toArray := by
  have h0 : i < L.length := by omega
  have e : L[i] = .val w := by rw [List.getElem?_eq_getElem h0] at hl; exact Option.some.inj hl
  simp [storeLocals, storeSelf, setAt, h0, e, cs, cv_cat, ho, hi, hv, List.map_set]
/-- over the second half of a long -/
theorem sto1s {k i : Nat} {v : Value} (hl : L[i]? = some .second) (hi : 0 < i) (hv : v.category = 1) : storeLocals (L.map (cs k)).toArray i (cv k v) = some (((L.set (i - 1) .unset).set i (.val v)).map (cs k)).toArray := by
  have h0 : i < L.length := (List.getElem?_eq_some_iff.mp hl).1
  have e : L[i] = .second := by rw [List.getElem?_eq_getElem h0] at hl; exact Option.some.inj hl
  have h1 : i - 1 < L.length := by omega
  simp [storeLocals, storeSelf, setAt, h0, h1, e, cs, cv_cat, hv, List.map_set]
/-- what a long may be stored over -/
def two : Slot → Slot → Bool
  | .second, _ => false
  | _, .val w => w.category == 1
  | _, _ => true
theorem sto2 {k i : Nat} {o o' : Slot} {x : Int64} (hl : L[i]? = some o) (hl' : L[i + 1]? = some o') (ho : two o o' = true) : storeLocals (L.map (cs k)).toArray i (.long x) = some (((L.set i (.val (.long x))).set (i + 1) .second).map (cs k)).toArray := by
  have h0 : i < L.length := (List.getElem?_eq_some_iff.mp hl).1
  have h1 : i + 1 < L.length := (List.getElem?_eq_some_iff.mp hl').1
  have e : L[i] = o := by rw [List.getElem?_eq_getElem h0] at hl; exact Option.some.inj hl
  have e' : L[i + 1] = o' := by rw [List.getElem?_eq_getElem h1] at hl'; exact Option.some.inj hl'
  have ne : ¬ (i = i + 1) := by omega
  have c2 : (Value.long x).category = 2 := rfl
  have cl : cv k (.long x) = .long x := rfl
  have sw : ∀ (l : List Slot) (u v w : Slot), ((l.set (i + 1) u).set i v).set (i + 1) w = (l.set i v).set (i + 1) w := fun l u v w => by
    rw [List.set_comm _ _ (by omega : i + 1 ≠ i), List.set_set]
  cases o with
  | second => cases ho
  | unset =>
    cases o' with
    | unset => simp [storeLocals, storeSelf, setAt, h0, h1, e, e', cs, c2, cl, List.map_set]
    | second => simp [storeLocals, storeSelf, setAt, h0, h1, e, e', cs, c2, cl, List.map_set]
    | val w' =>
      have hc : w'.category = 1 := by simpa [two] using ho
      simp [storeLocals, storeSelf, setAt, h0, h1, e, e', cs, cv_cat, hc, c2, cl, List.map_set]
  | val w =>
    by_cases hw : w.category = 2
    · simp [storeLocals, storeSelf, setAt, h0, h1, e, cs, cv_cat, hw, c2, cl, List.map_set, sw]
    · cases o' with
      | unset => simp [storeLocals, storeSelf, setAt, h0, h1, e, e', cs, cv_cat, hw, c2, cl, List.map_set]
      | second => simp [storeLocals, storeSelf, setAt, h0, h1, e, e', cs, cv_cat, hw, c2, cl, List.map_set]
      | val w' =>
        have hc : w'.category = 1 := by simpa [two] using ho
        simp [storeLocals, storeSelf, setAt, h0, h1, e, e', cs, cv_cat, hw, hc, c2, cl, List.map_set]
theorem W.istore_n {i : Fin 4} {o : Slot} {x : Int32} (hd : decode μ.2.1 pc = .ok (.istore_n i, 1)) (hl : L[i.val]? = some o) (ho : one o = true) (h : W tb K μ rm (pc + 1) (L.set i.val (.val (.int x))) S H Q) : W tb K μ rm pc L (.int x :: S) H Q :=
  W.pure (by simp) (fun k p e m below c T hA hx hb' t ht => XS.istoreN hA hx rfl (hb hb' hd) rfl (sto1 (v := .int x) hl ho rfl) ht) h
theorem W.istore_nW {i : Fin 4} {w : Value} {x : Int32} (hd : decode μ.2.1 pc = .ok (.istore_n i, 1)) (hl : L[i.val]? = some (.val w)) (ho : w.category = 2) (hi : i.val + 1 < L.length) (h : W tb K μ rm (pc + 1) ((L.set (i.val + 1) .unset).set i.val (.val (.int x))) S H Q) : W tb K μ rm pc L (.int x :: S) H Q :=
  W.pure (by simp) (fun k p e m below c T hA hx hb' t ht => XS.istoreN hA hx rfl (hb hb' hd) rfl (sto1w (v := .int x) hl ho hi rfl) ht) h
theorem W.istore_nS {i : Fin 4} {x : Int32} (hd : decode μ.2.1 pc = .ok (.istore_n i, 1)) (hl : L[i.val]? = some .second) (hi : 0 < i.val) (h : W tb K μ rm (pc + 1) ((L.set (i.val - 1) .unset).set i.val (.val (.int x))) S H Q) : W tb K μ rm pc L (.int x :: S) H Q :=
  W.pure (by simp) (fun k p e m below c T hA hx hb' t ht => XS.istoreN hA hx rfl (hb hb' hd) rfl (sto1s (v := .int x) hl hi rfl) ht) h
theorem W.istore {i : Nat} {o : Slot} {x : Int32} (hd : decode μ.2.1 pc = .ok (.istore i, 2)) (hl : L[i]? = some o) (ho : one o = true) (h : W tb K μ rm (pc + 2) (L.set i (.val (.int x))) S H Q) : W tb K μ rm pc L (.int x :: S) H Q :=
  W.pure (by simp) (fun k p e m below c T hA hx hb' t ht => XS.istore hA hx rfl (hb hb' hd) rfl (sto1 (v := .int x) hl ho rfl) ht) h
theorem W.istoreW {i : Nat} {w : Value} {x : Int32} (hd : decode μ.2.1 pc = .ok (.istore i, 2)) (hl : L[i]? = some (.val w)) (ho : w.category = 2) (hi : i + 1 < L.length) (h : W tb K μ rm (pc + 2) ((L.set (i + 1) .unset).set i (.val (.int x))) S H Q) : W tb K μ rm pc L (.int x :: S) H Q :=
  W.pure (by simp) (fun k p e m below c T hA hx hb' t ht => XS.istore hA hx rfl (hb hb' hd) rfl (sto1w (v := .int x) hl ho hi rfl) ht) h
theorem W.istoreS {i : Nat} {x : Int32} (hd : decode μ.2.1 pc = .ok (.istore i, 2)) (hl : L[i]? = some .second) (hi : 0 < i) (h : W tb K μ rm (pc + 2) ((L.set (i - 1) .unset).set i (.val (.int x))) S H Q) : W tb K μ rm pc L (.int x :: S) H Q :=
  W.pure (by simp) (fun k p e m below c T hA hx hb' t ht => XS.istore hA hx rfl (hb hb' hd) rfl (sto1s (v := .int x) hl hi rfl) ht) h
theorem W.astore_n {i : Fin 4} {o : Slot} {v : Value} (hd : decode μ.2.1 pc = .ok (.astore_n i, 1)) (hl : L[i.val]? = some o) (ho : one o = true) (hv : v.isRef = true) (h : W tb K μ rm (pc + 1) (L.set i.val (.val v)) S H Q) : W tb K μ rm pc L (v :: S) H Q :=
  W.pure (by simp) (fun k p e m below c T hA hx hb' t ht => XS.astoreN hA hx rfl (hb hb' hd) rfl (by rw [cv_isRef]; exact hv) (sto1 (v := v) hl ho (by cases v <;> first | rfl | cases hv)) ht) h
theorem W.astore {i : Nat} {o : Slot} {v : Value} (hd : decode μ.2.1 pc = .ok (.astore i, 2)) (hl : L[i]? = some o) (ho : one o = true) (hv : v.isRef = true) (h : W tb K μ rm (pc + 2) (L.set i (.val v)) S H Q) : W tb K μ rm pc L (v :: S) H Q :=
  W.pure (by simp) (fun k p e m below c T hA hx hb' t ht => XS.astore hA hx rfl (hb hb' hd) rfl (by rw [cv_isRef]; exact hv) (sto1 (v := v) hl ho (by cases v <;> first | rfl | cases hv)) ht) h
theorem W.lstore_n {i : Fin 4} {o o' : Slot} {x : Int64} (hd : decode μ.2.1 pc = .ok (.lstore_n i, 1)) (hl : L[i.val]? = some o) (hl' : L[i.val + 1]? = some o') (ho : two o o' = true) (h : W tb K μ rm (pc + 1) ((L.set i.val (.val (.long x))).set (i.val + 1) .second) S H Q) : W tb K μ rm pc L (.long x :: S) H Q :=
  W.pure (by simp) (fun k p e m below c T hA hx hb' t ht => XT.lstoreN hA hx rfl (hb hb' hd) rfl (sto2 hl hl' ho) ht) h
theorem W.lstore {i : Nat} {o o' : Slot} {x : Int64} (hd : decode μ.2.1 pc = .ok (.lstore i, 2)) (hl : L[i]? = some o) (hl' : L[i + 1]? = some o') (ho : two o o' = true) (h : W tb K μ rm (pc + 2) ((L.set i (.val (.long x))).set (i + 1) .second) S H Q) : W tb K μ rm pc L (.long x :: S) H Q :=
  W.pure (by simp) (fun k p e m below c T hA hx hb' t ht => XT.lstore hA hx rfl (hb hb' hd) rfl (sto2 hl hl' ho) ht) h
theorem W.iinc {i : Nat} {n : Int} {x y : Int32} (hd : decode μ.2.1 pc = .ok (.iinc i n, 3)) (hy : Int32.ofInt n = y) (hl : L[i]? = some (.val (.int x))) (h : W tb K μ rm (pc + 3) (L.set i (.val (.int (x + y)))) S H Q) : W tb K μ rm pc L S H Q := by
  subst hy
  exact W.pure (by simp) (fun k p e m below c T hA hx hb' t ht => XS.iinc hA hx rfl (hb hb' hd) (get_conc hl) (sto1 (v := .int (x + Int32.ofInt n)) hl rfl rfl) ht) h
theorem W.goto {o : Int} {pc' : Nat} (hd : decode μ.2.1 pc = .ok (.goto o, 3)) (ho : 0 ≤ (pc : Int) + o) (hp : ((pc : Int) + o).toNat = pc') (h : W tb K μ rm pc' L S H Q) : W tb K μ rm pc L S H Q :=
  W.pure rfl (fun k p e m below c T hA hx hb' t ht => XS.goto hA hx rfl rfl (hb hb' hd) ho hp ht) h
/-- what a comparison asks -/
def cnd : ClassFile.Cond → Int32 → Int32 → Prop
  | .eq, x, y => x = y
  | .ne, x, y => ¬ x = y
  | .lt, x, y => x < y
  | .ge, x, y => ¬ x < y
  | .gt, x, y => y < x
  | .le, x, y => ¬ y < x
def cndN : ClassFile.Cond → Int32 → Int32 → Prop
  | .eq, x, y => ¬ x = y
  | .ne, x, y => x = y
  | .lt, x, y => ¬ x < y
  | .ge, x, y => x < y
  | .gt, x, y => ¬ y < x
  | .le, x, y => y < x
theorem cndN_of (cd : ClassFile.Cond) (x y : Int32) (h : ¬ cnd cd x y) : cndN cd x y := by
  cases cd <;> first | exact h | exact Classical.not_not.mp h
theorem cnd_iff (cd : ClassFile.Cond) (x y : Int32) : if_icmp.holds cd x y = true ↔ cnd cd x y := by
  cases cd <;> simp [if_icmp.holds, cnd, Int32.not_lt]
theorem cnd_not (cd : ClassFile.Cond) (x y : Int32) : if_icmp.holds cd x y = false ↔ ¬ cnd cd x y := by
  rw [← cnd_iff]; cases if_icmp.holds cd x y <;> simp
theorem W.icmp {cd : ClassFile.Cond} {x y : Int32} {o : Int} {pc' : Nat} (hd : decode μ.2.1 pc = .ok (.if_icmp cd o, 3)) (ho : 0 ≤ (pc : Int) + o) (hp : ((pc : Int) + o).toNat = pc') (h1 : cnd cd x y → W tb K μ rm pc' L S H Q) (h2 : cndN cd x y → W tb K μ rm (pc + 3) L S H Q) : W tb K μ rm pc L (.int y :: .int x :: S) H Q := by
  cases hc : if_icmp.holds cd x y
  · exact W.pure rfl (fun k p e m below c T hA hx hb' t ht => XS.icmpNo hA hx rfl (hb hb' hd) rfl hc ht) (h2 (cndN_of cd x y ((cnd_not cd x y).mp hc)))
  · exact W.pure rfl (fun k p e m below c T hA hx hb' t ht => XS.icmpYes hA hx rfl rfl (hb hb' hd) rfl hc ho hp ht) (h1 ((cnd_iff cd x y).mp hc))
theorem W.ifc {cd : ClassFile.Cond} {x : Int32} {o : Int} {pc' : Nat} (hd : decode μ.2.1 pc = .ok (.ifCond cd o, 3)) (ho : 0 ≤ (pc : Int) + o) (hp : ((pc : Int) + o).toNat = pc') (h1 : cnd cd x 0 → W tb K μ rm pc' L S H Q) (h2 : cndN cd x 0 → W tb K μ rm (pc + 3) L S H Q) : W tb K μ rm pc L (.int x :: S) H Q := by
  cases hc : ifCond.holds cd x
  · exact W.pure rfl (fun k p e m below c T hA hx hb' t ht => XS.ifNo hA hx rfl (hb hb' hd) rfl hc ht) (h2 (cndN_of cd x 0 ((cnd_not cd x 0).mp (by rw [← if0]; exact hc))))
  · exact W.pure rfl (fun k p e m below c T hA hx hb' t ht => XS.ifYes hA hx rfl rfl (hb hb' hd) rfl hc ho hp ht) (h1 ((cnd_iff cd x 0).mp (by rw [← if0]; exact hc)))
def cndL : ClassFile.Cond → Int64 → Int64 → Prop
  | .eq, x, y => x = y
  | .ne, x, y => ¬ x = y
  | .lt, x, y => x < y
  | .ge, x, y => ¬ x < y
  | .gt, x, y => y < x
  | .le, x, y => ¬ y < x
def cndLN : ClassFile.Cond → Int64 → Int64 → Prop
  | .eq, x, y => ¬ x = y
  | .ne, x, y => x = y
  | .lt, x, y => ¬ x < y
  | .ge, x, y => x < y
  | .gt, x, y => ¬ y < x
  | .le, x, y => y < x
theorem cndLN_iff (cd : ClassFile.Cond) (x y : Int64) : cndLN cd x y ↔ ¬ cndL cd x y := by
  cases cd <;> first | exact Iff.rfl | exact Classical.not_not.symm
theorem cndN_iff (cd : ClassFile.Cond) (x y : Int32) : cndN cd x y ↔ ¬ cnd cd x y := by
  cases cd <;> first | exact Iff.rfl | exact Classical.not_not.symm
theorem cmpL_iff (cd : ClassFile.Cond) (x y : Int64) : cnd cd (XT.cmpL x y) 0 ↔ cndL cd x y := by
  have e : XT.cmpL x y = lcmpW x y := by simp [XT.cmpL, lcmpW]
  rw [e]
  cases cd
  · exact lw_eq x y
  · exact not_congr (lw_eq x y)
  · exact lw_lt x y
  · exact not_congr (lw_lt x y)
  · exact lw_gt x y
  · exact not_congr (lw_gt x y)
/-- lcmp and the branch behind it -/
theorem W.lcif {cd : ClassFile.Cond} {x y : Int64} {o : Int} {pc1 pc' : Nat} (hd1 : decode μ.2.1 pc = .ok (.lcmp, 1)) (hp1 : pc + 1 = pc1) (hd : decode μ.2.1 pc1 = .ok (.ifCond cd o, 3)) (ho : 0 ≤ (pc1 : Int) + o) (hp : ((pc1 : Int) + o).toNat = pc') (h1 : cndL cd x y → W tb K μ rm pc' L S H Q) (h2 : cndLN cd x y → W tb K μ rm (pc1 + 3) L S H Q) : W tb K μ rm pc L (.long y :: .long x :: S) H Q := by
  subst hp1
  exact W.lcmp hd1 (W.ifc hd ho hp (fun h => h1 ((cmpL_iff cd x y).mp h)) (fun h => h2 ((cndLN_iff cd x y).mpr fun q => (cndN_iff cd _ 0).mp h ((cmpL_iff cd x y).mpr q))))
theorem W.ifnullR {i : Nat} {o : Int} (hd : decode μ.2.1 pc = .ok (.ifnull o, 3)) (h : W tb K μ rm (pc + 3) L S H Q) : W tb K μ rm pc L (.ref i :: S) H Q :=
  W.pure rfl (fun k p e m below c T hA hx hb' t ht => XS.ifnullNo hA hx rfl (hb hb' hd) rfl ht) h
theorem W.ifnonnullR {i : Nat} {o : Int} {pc' : Nat} (hd : decode μ.2.1 pc = .ok (.ifnonnull o, 3)) (ho : 0 ≤ (pc : Int) + o) (hp : ((pc : Int) + o).toNat = pc') (h : W tb K μ rm pc' L S H Q) : W tb K μ rm pc L (.ref i :: S) H Q :=
  W.pure rfl (fun k p e m below c T hA hx hb' t ht => XT.ifnonnullYes hA hx rfl rfl (hb hb' hd) rfl ho hp ht) h
theorem W.lsw {d : Int} {ps : Array (Int × Int)} {len : Nat} {x : Int32} {o : Int} {pc' : Nat} (hd : decode μ.2.1 pc = .ok (.lookupswitch d ps, len)) (hs : (ps.toList.zip (ps.toList.drop 1)).all (fun (a, next) => a.1 < next.1) = true) (ho : lookupswitch.offset ps.toList d x.toInt = o) (h0 : 0 ≤ (pc : Int) + o) (hp : ((pc : Int) + o).toNat = pc')
    (h : W tb K μ rm pc' L S H Q) : W tb K μ rm pc L (.int x :: S) H Q := by
  subst hp
  refine W.pure rfl (fun k p e m below c T hA hx hb' t ht => ?_) h
  have hd' := hb hb' hd
  show Steps p.tables e below (T.setTop (mkF m pc (L.map (cs k)).toArray (.int x :: S.map (cv k)))) _
  jvm_step hA [hA.top, hx, hd', lookupswitch.wp_chain, ho, h0]
  refine ⟨?_, ht⟩
  simpa using hs
end Logic
end Jvm.Own
namespace Jvm.Own
open Sem ClassFile Op Lib Jvm.Stand Jvm.Free Jvm.LawKit Jvm.RoadKit
section Heap
variable {Z : State} {K : KTab} {h h' : Heap} {H : AHeap} {a b : Addr} {tb : List Cond} {a0 : Array Value}
theorem CellOk.ext {c : ACell} (E : Ext h h') (F : CellOk Z K h a c) : CellOk Z K h' a c := by
  cases c with
  | inl q =>
    obtain ⟨C, n, fs, h1, h2, h3, h4⟩ := F
    exact ⟨C, n, fs, h1, h2, h3.ext E, fun j f v hf hv => (h4 j f v hf hv).ext E⟩
  | inr q =>
    obtain ⟨cell, h1, h2⟩ := F
    exact ⟨cell, h1.ext E, h2⟩
theorem CellOk.other {c : ACell} {sl : Nat} {v : Value} (W : Wr h h' b sl v) (F : CellOk Z K h a c) (ne : a ≠ b) : CellOk Z K h' a c := by
  cases c with
  | inl q =>
    obtain ⟨C, n, fs, h1, h2, h3, h4⟩ := F
    exact ⟨C, n, fs, h1, h2, h3.wr W, fun j f v hf hv => (h4 j f v hf hv).other W (Or.inl ne)⟩
  | inr q =>
    obtain ⟨cell, h1, h2⟩ := F
    exact ⟨cell, h1.other W ne, h2⟩
theorem Rel.start (Z : State) (K : KTab) : Rel Z K Z.heap [] := ⟨rfl, fun i c q => by simp at q⟩
theorem Rel.push {c : ACell} {cell : Cell} (R : Rel Z K h H) (F : CellOk Z K (h.push cell) (Z.heap.size + H.length) c) : Rel Z K (h.push cell) (H ++ [c]) := by
  have E : Ext h (h.push cell) := ⟨by simp, fun x c q => by rw [Array.getElem?_push_lt (Array.getElem?_eq_some_iff.mp q).1]; exact (Array.getElem?_eq_getElem _).symm.trans q⟩
  refine ⟨by simp [R.1]; omega, fun i c' q => ?_⟩
  rcases Nat.lt_trichotomy i H.length with hi | hi | hi
  · rw [List.getElem?_append_left hi] at q
    exact (R.2 i c' q).ext E
  · subst hi
    rw [List.getElem?_append_right (Nat.le_refl _)] at q
    simp at q
    subst q
    exact F
  · rw [List.getElem?_append_right (Nat.le_of_lt hi)] at q
    rw [List.getElem?_eq_none (show 1 ≤ i - H.length from Nat.sub_pos_of_lt hi)] at q
    cases q
theorem Rel.set {c : ACell} {i sl : Nat} {v : Value} (R : Rel Z K h H) (W : Wr h h' (Z.heap.size + i) sl v) (F : CellOk Z K h' (Z.heap.size + i) c) : Rel Z K h' (H.set i c) := by
  refine ⟨by rw [W.size, List.length_set]; exact R.1, fun j c' q => ?_⟩
  by_cases e : j = i
  · subst e
    obtain ⟨hl, -⟩ := List.getElem?_eq_some_iff.mp q
    rw [List.getElem?_set_self (by simpa using hl)] at q
    cases q
    exact F
  · rw [List.getElem?_set_ne (Ne.symm e)] at q
    exact (R.2 j c' q).other W (fun q' => e (Nat.add_left_cancel q'))
theorem mem_of_get {q : String × Nat × List (String × String × String × FieldType)} {c : Nat} (hK : K[c]? = some q) : q ∈ K := List.mem_of_getElem? hK
theorem FOk.laid {C : String} {f : String × String × String × FieldType} (F : FOk tb C f) (hw : ∀ d ∈ tb, d.before a0 Z = true) : Laid Z a0 C f.1 f.2.1 f.2.2.1 := F.1.imp (hw _) (hw _)
theorem CellOk.put {c i j : Nat} {vs : List Value} {C : String} {n : Nat} {fs : List (String × String × String × FieldType)} {f : String × String × String × FieldType} {v : Value} (hKO : KOk tb K) (hw : ∀ d ∈ tb, d.before a0 Z = true) (hK : K[c]? = some (C, n, fs)) (hf : fs[j]? = some f)
    (W : Wr h h' a (RoadKit.slotOf Z f.1 f.2.1 f.2.2.1) (cv Z.heap.size v)) (F : CellOk Z K h a (.inl (c, vs))) : CellOk Z K h' a (.inl (c, vs.set j v)) := by
  obtain ⟨C', n', fs', h1, h2, h3, h4⟩ := F
  cases hK.symm.trans h1
  obtain ⟨k1, k2, k3⟩ := hKO _ (mem_of_get hK)
  refine ⟨C, n, fs, hK, by simpa using h2, h3.wr W, fun j' f' v' hf' hv' => ?_⟩
  by_cases e : j' = j
  · subst e
    cases hf.symm.trans hf'
    have hl : j' < vs.length := by rw [h2]; exact (List.getElem?_eq_some_iff.mp hf).1
    rw [List.getElem?_set_self hl] at hv'
    cases hv'
    obtain ⟨w, hw'⟩ : ∃ w, vs[j']? = some w := ⟨vs[j'], List.getElem?_eq_getElem hl⟩
    exact (h4 j' f w hf hw').same W
  · rw [List.getElem?_set_ne (Ne.symm e)] at hv'
    have m1 : f ∈ fs := List.mem_of_getElem? hf
    have m2 : f' ∈ fs := List.mem_of_getElem? hf'
    have hn : f'.2.1 ≠ f.2.1 := fun q => by
      have g1 : (fs.map fun f => f.2.1)[j']? = some f'.2.1 := by simp [hf']
      have g2 : (fs.map fun f => f.2.1)[j]? = some f.2.1 := by simp [hf]
      rw [q] at g1
      obtain ⟨l1, e1⟩ := List.getElem?_eq_some_iff.mp g1
      obtain ⟨l2, e2⟩ := List.getElem?_eq_some_iff.mp g2
      rcases Nat.lt_or_gt_of_ne e with lt | lt
      · exact (List.pairwise_iff_getElem.mp k3) j' j l1 l2 lt (e1.trans e2.symm)
      · exact (List.pairwise_iff_getElem.mp k3) j j' l2 l1 lt (e2.trans e1.symm)
    exact (h4 j' f' v' hf' hv').other W (Or.inr (slot_ne ((k2 f' m2).laid hw) ((k2 f m1).laid hw) hn (k2 f' m2).2 (k2 f m1).2))
theorem CellOk.sto {ty : FieldType} {vs : List Value} {j : Nat} {v : Value} (W : Wr h h' a j (cv Z.heap.size v)) (F : CellOk Z K h a (.inr (ty, vs))) (hv : fits ty v = true) : CellOk Z K h' a (.inr (ty, vs.set j v)) := by
  obtain ⟨cell, h1, h2, h3⟩ := F
  refine ⟨_, h1.same W, ?_, fun w hw => ?_⟩
  · simp [Cell.setSlot, h2, List.map_set]
  · rcases List.mem_or_eq_of_mem_set hw with q | q
    · exact h3 w q
    · exact q ▸ hv
end Heap
section Logic
variable {tb : List Cond} {K : KTab} {μ : Mth} {rm : Room} {pc : Nat} {L : List Slot} {S : List Value} {H : AHeap} {Q Q' : Option Value → AHeap → Prop}
theorem via_of {Z : State} {a0 : Array Value} (hw : ∀ d ∈ tb, d.before a0 Z = true) {R0 O n d : String} (via : R0 = O ∨ Cond.sameField R0 O n d ∈ tb) : Via Z R0 O n d := by
  rcases via with rfl | q
  · exact Via.refl
  · exact Via.of (hw _ q)
theorem W.getF {idx i j c n : Nat} {C R0 host : String} {fs : List (String × String × String × FieldType)} {vs : List Value} {f : String × String × String × FieldType} {v : Value} (hd : decode μ.2.1 pc = .ok (.getfield idx, 3))
    (w : Cond.fieldLink μ.1.cls idx R0 f.2.1 f.2.2.1 ∈ tb ∨ Cond.fieldLinkNest μ.1.cls idx R0 f.2.1 f.2.2.1 host ∈ tb) (via : R0 = f.1 ∨ Cond.sameField R0 f.1 f.2.1 f.2.2.1 ∈ tb) (hK : K[c]? = some (C, n, fs)) (hf : fs[j]? = some f) (hH : H[i]? = some (.inl (c, vs))) (hv : vs[j]? = some v)
    (h : W tb K μ rm (pc + 3) L (v :: S) H Q) : W tb K μ rm pc L (.ref i :: S) H Q := by
  intro hL Z a0 p l e R s m args below meth c' T locs cells slots X
  obtain ⟨X0, hx, hZ, hw, hby, hml, hrt, hnm, hlk, hown, hR, hr⟩ := X
  obtain ⟨C', n', fs', k1, k2, k3, k4⟩ := hR.2 _ _ hH
  cases hK.symm.trans k1
  have F := k4 j f v hf hv
  obtain ⟨T1, X1, e1, st⟩ := RoadKit.getF X0 hx hZ hown (w.imp (hw _) (hw _)) (via_of hw via) rfl F (g := mkF m pc (L.map (cs Z.heap.size)).toArray ((Value.ref i :: S).map (cv Z.heap.size))) rfl rfl (hb hby hd)
  exact (h hL Z a0 p l e R s m args below meth c' T1 locs cells slots ⟨X1, hx, hZ, hw, hby, hml, hrt, hnm, hlk, hown, e1 ▸ hR, hr⟩).steps st
theorem W.putF {idx i j c n : Nat} {C R0 host : String} {fs : List (String × String × String × FieldType)} {vs : List Value} {f : String × String × String × FieldType} {v : Value} (hKO : KOk tb K) (hd : decode μ.2.1 pc = .ok (.putfield idx, 3))
    (w : Cond.fieldLink μ.1.cls idx R0 f.2.1 f.2.2.1 ∈ tb ∨ Cond.fieldLinkNest μ.1.cls idx R0 f.2.1 f.2.2.1 host ∈ tb) (via : R0 = f.1 ∨ Cond.sameField R0 f.1 f.2.1 f.2.2.1 ∈ tb) (hK : K[c]? = some (C, n, fs)) (hf : fs[j]? = some f)
    (la : Cond.lays C f.1 f.2.1 f.2.2.1 ∈ tb ∨ (Cond.laysFinal C f.1 f.2.1 f.2.2.1 ∈ tb ∧ μ.1.cls = f.1 ∧ μ.1.name = "<init>")) (hn : narrow f.2.2.2 v = v) (hfi : fits f.2.2.2 v = true) (hH : H[i]? = some (.inl (c, vs)))
    (h : W tb K μ rm (pc + 3) L S (H.set i (.inl (c, vs.set j v))) Q) : W tb K μ rm pc L (v :: .ref i :: S) H Q := by
  intro hL Z a0 p l e R s m args below meth c' T locs cells slots X
  obtain ⟨X0, hx, hZ, hw, hby, hml, hrt, hnm, hlk, hown, hR, hFr, hr⟩ := X
  have CO := hR.2 _ _ hH
  obtain ⟨C', n', fs', k1, k2, k3, k4⟩ := CO
  cases hK.symm.trans k1
  have hl : j < vs.length := by rw [k2]; exact (List.getElem?_eq_some_iff.mp hf).1
  have F := k4 j f vs[j] hf (List.getElem?_eq_getElem hl)
  obtain ⟨o1, o2, o3⟩ := hKO _ (mem_of_get hK)
  obtain ⟨T1, h1, X1, e1, W1, st⟩ := RoadKit.putF X0 hx hZ hown (w.imp (hw _) (hw _)) (via_of hw via) rfl F k3 (la.imp (hw _) fun q => ⟨hw _ q.1, q.2.1, hnm.trans q.2.2⟩) (hw _ o1) (o2 f (List.mem_of_getElem? hf)).2 (v := cv Z.heap.size v) (by rw [cv_narrow, hn]) (by rw [cv_fits]; exact hfi) (g := mkF m pc (L.map (cs Z.heap.size)).toArray ((v :: Value.ref i :: S).map (cv Z.heap.size))) rfl rfl (hb hby hd)
  exact (h hL Z a0 p l e R s m args below meth c' T1 _ cells slots ⟨X1, hx, hZ, hw, hby, hml, hrt, hnm, hlk, hown, e1 ▸ hR.set W1 (CellOk.put (i := i) hKO hw hK hf W1 (hR.2 _ _ hH)), Fr.snoc X1 hFr (Nat.le_add_right _ _), hr⟩).steps st
/-- a field of a boolean, byte, char or short -/
theorem W.putFN {idx i j c n : Nat} {C R0 : String} {fs : List (String × String × String × FieldType)} {vs : List Value} {f : String × String × String × FieldType} {v v' : Value} (hKO : KOk tb K) (hd : decode μ.2.1 pc = .ok (.putfield idx, 3))
    (w : Cond.fieldLink μ.1.cls idx R0 f.2.1 f.2.2.1 ∈ tb) (via : R0 = f.1 ∨ Cond.sameField R0 f.1 f.2.1 f.2.2.1 ∈ tb) (hK : K[c]? = some (C, n, fs)) (hf : fs[j]? = some f)
    (la : Cond.lays C f.1 f.2.1 f.2.2.1 ∈ tb ∨ (Cond.laysFinal C f.1 f.2.1 f.2.2.1 ∈ tb ∧ μ.1.cls = f.1 ∧ μ.1.name = "<init>")) (hn : narrow f.2.2.2 v = v') (hfi : fits f.2.2.2 v' = true) (hH : H[i]? = some (.inl (c, vs)))
    (h : W tb K μ rm (pc + 3) L S (H.set i (.inl (c, vs.set j v'))) Q) : W tb K μ rm pc L (v :: .ref i :: S) H Q := by
  intro hL Z a0 p l e R s m args below meth c' T locs cells slots X
  obtain ⟨X0, hx, hZ, hw, hby, hml, hrt, hnm, hlk, hown, hR, hFr, hr⟩ := X
  have CO := hR.2 _ _ hH
  obtain ⟨C', n', fs', k1, k2, k3, k4⟩ := CO
  cases hK.symm.trans k1
  have hl : j < vs.length := by rw [k2]; exact (List.getElem?_eq_some_iff.mp hf).1
  have F := k4 j f vs[j] hf (List.getElem?_eq_getElem hl)
  obtain ⟨o1, o2, o3⟩ := hKO _ (mem_of_get hK)
  obtain ⟨T1, h1, X1, e1, W1, st⟩ := RoadKit.putFN X0 hx hZ hown (hw _ w) (via_of hw via) rfl F k3 (la.imp (hw _) fun q => ⟨hw _ q.1, q.2.1, hnm.trans q.2.2⟩) (hw _ o1) (o2 f (List.mem_of_getElem? hf)).2 (v := cv Z.heap.size v) (v' := cv Z.heap.size v') (by rw [cv_narrow, hn]) (by rw [cv_fits]; exact hfi) (g := mkF m pc (L.map (cs Z.heap.size)).toArray ((v :: Value.ref i :: S).map (cv Z.heap.size))) rfl rfl (hb hby hd)
  exact (h hL Z a0 p l e R s m args below meth c' T1 _ cells slots ⟨X1, hx, hZ, hw, hby, hml, hrt, hnm, hlk, hown, e1 ▸ hR.set W1 (CellOk.put (i := i) hKO hw hK hf W1 (hR.2 _ _ hH)), Fr.snoc X1 hFr (Nat.le_add_right _ _), hr⟩).steps st
/-- the index j is the natural N -/
abbrev ix (j : Int32) (N : Nat) : Prop := ¬ j < 0 ∧ j.toNatClampNeg = N
theorem ix_ofNat {N : Nat} (h : N < 2 ^ 31) : ix (Int32.ofNat N) N := by
  have e : (Int32.ofNat N).toInt = N := Int32.toInt_ofNat_of_lt h
  refine ⟨?_, ?_⟩
  · rw [Int32.lt_iff_toInt_lt, e]; simp
  · rw [Int32.toNatClampNeg, e]; rfl
theorem inb {cell : Cell} {j : Int32} {N : Nat} {vs : List Value} {k : Nat} (k2 : cell.slots = (vs.map (cv k)).toArray) (hj : ¬ j < 0) (hN : j.toNatClampNeg = N) (hl : N < vs.length) : ¬ (j < 0 ∨ cell.slots.size ≤ j.toNatClampNeg) := by
  rw [k2, hN]; simp; exact ⟨by simpa using hj, hl⟩
/-- room for an object of n slots -/
def nok (rm : Room) (n : Nat) : Bool := Nat.ble 1 rm.cells && (Nat.ble n rm.slots && Nat.ble n 67108864)
theorem nok_spec {rm : Room} {n : Nat} (h : nok rm n = true) : 1 ≤ rm.cells ∧ n ≤ rm.slots ∧ n * 8 ≤ 536870912 := by
  simp only [nok, Bool.and_eq_true, Nat.ble_eq] at h
  omega
theorem W.new {idx c n i : Nat} {C : String} {fs : List (String × String × String × FieldType)} (hKO : KOk tb K) (hd : decode μ.2.1 pc = .ok (.new idx, 3)) (w : Cond.classLink μ.1.cls idx C ∈ tb) (wz : Cond.initialized C ∈ tb) (hK : K[c]? = some (C, n, fs)) (hi : H.length = i) (hr : nok rm n = true)
    (h : W tb K μ ⟨rm.frames, rm.cells - 1, rm.slots - n, rm.locals⟩ (pc + 3) L (.ref i :: S) (H ++ [.inl (c, fs.map fun f => defaultValue f.2.2.2)]) Q) : W tb K μ rm pc L S H Q := by
  intro hL Z a0 p l e R s m args below meth c' T locs cells slots X
  obtain ⟨X0, hx, hZ, hw, hby, hml, hrt, hnm, hlk, hown, hR, hFr, hr1, hr2, hr3, hr4⟩ := X
  obtain ⟨hc, hs, hb'⟩ := nok_spec hr
  obtain ⟨o1, o2, o3⟩ := hKO _ (mem_of_get hK)
  obtain ⟨vm', cC, kC, h1, h2, h3, h4, X', st⟩ := X0.newCold hx hown (mv hZ (hw _ w)) (mv hZ (hw _ (show Cond.instantiable C n ∈ tb from o1))) (mv hZ (hw _ wz)) (g := mkF m pc (L.map (cs Z.heap.size)).toArray (S.map (cv Z.heap.size))) rfl (hb hby hd) (by omega) (by omega)
  rw [hZ.alike.findClass] at h1
  obtain ⟨kZ, z1, -⟩ := Vm.findClass_spec h1
  obtain ⟨k', z2, z3⟩ := hZ.alike.2.2 _ _ z1
  cases h2.symm.trans z2
  have ei : kC.instanceTypes = kZ.instanceTypes := by rw [z3]
  have hN : (T.heap.push { cls := cC, slots := kC.instanceTypes.map defaultValue, vm := .none })[T.heap.size]? = some { cls := cC, slots := kC.instanceTypes.map defaultValue, vm := .none } := by simp
  have ea : Z.heap.size + i = T.heap.size := by rw [hR.1, hi]
  have CO : CellOk Z K (T.heap.push { cls := cC, slots := kC.instanceTypes.map defaultValue, vm := .none }) (Z.heap.size + H.length) (.inl (c, fs.map fun f => defaultValue f.2.2.2)) := by
    refine ⟨C, n, fs, hK, by simp, ⟨_, kZ, by rw [← hR.1]; exact hN, h1, z1, rfl, fun _ => by simp [ei]⟩, fun j f v hf hv => ?_⟩
    have hv' : v = defaultValue f.2.2.2 := by simpa [hf] using hv.symm
    subst hv'
    obtain ⟨f1, f2⟩ := o2 f (List.mem_of_getElem? hf)
    obtain ⟨c1, k1, cf, kf, i1, ff, b1, b2, b3, b4, b5, b6, -⟩ := (FOk.laid ⟨f1, f2⟩ hw).spec
    cases h1.symm.trans b1
    cases z1.symm.trans b2
    rw [cv_default]
    exact ⟨_, cf, kf, i1, ff, by rw [← hR.1]; exact hN, b3, b4, by simp, rfl, b5, by simp [ei, b6, (State.fieldFound?_type b3 f2).2]⟩
  have := h hL Z a0 p l e R s m args below meth c' _ locs (cells + 1) (slots + n) ⟨X', hx, hZ, hw, hby, hml, hrt, hnm, hlk, hown, hR.push CO, hFr, hr1, by show cells + 1 + (rm.cells - 1) ≤ _; omega, by show slots + n + (rm.slots - n) ≤ _; omega, hr4⟩
  refine this.steps fun t ht => st t ?_
  rw [← ea]; exact ht
theorem W.newarray {aty : ArrayType} {ty : FieldType} {N i : Nat} {n : Int32} {d : Value} (hd : decode μ.2.1 pc = .ok (.newarray aty, 2)) (hty : newarray.typeOf aty = ty) (w : Cond.arrayClass ty ∈ tb) (hdv : defaultValue ty = d) (hn : ix n N) (hi : H.length = i) (hr : nok rm N = true)
    (h : W tb K μ ⟨rm.frames, rm.cells - 1, rm.slots - N, rm.locals⟩ (pc + 2) L (.ref i :: S) (H ++ [.inr (ty, List.replicate N d)]) Q) : W tb K μ rm pc L (.int n :: S) H Q := by
  intro hL Z a0 p l e R s m args below meth c' T locs cells slots X
  obtain ⟨X0, hx, hZ, hw, hby, hml, hrt, hnm, hlk, hown, hR, hFr, hr1, hr2, hr3, hr4⟩ := X
  obtain ⟨hn, hN⟩ := hn
  subst hty hdv hN
  obtain ⟨hc, hs, hb'⟩ := nok_spec hr
  have hcb : componentBytes (newarray.typeOf aty) ≤ 8 := by cases aty <;> decide
  obtain ⟨cA, kA, comp, h1, h2, h3, X', st⟩ := X0.newarrayPrim hx (mvA hZ (hw _ w)) (g := mkF m pc (L.map (cs Z.heap.size)).toArray ((Value.int n :: S).map (cv Z.heap.size))) rfl (hb hby hd) (n := n) rfl hn (Nat.le_trans (Nat.mul_le_mul (Nat.le_refl _) hcb) hb') (by omega) (by omega)
  rw [hZ.alike.findClass] at h1
  obtain ⟨kZ, z1, -⟩ := Vm.findClass_spec h1
  obtain ⟨k', z2, z3⟩ := hZ.alike.2.2 _ _ z1
  cases h2.symm.trans z2
  have hN : (T.heap.push { cls := cA, slots := Array.replicate n.toNatClampNeg (defaultValue (newarray.typeOf aty)), vm := .none })[T.heap.size]? = some { cls := cA, slots := Array.replicate n.toNatClampNeg (defaultValue (newarray.typeOf aty)), vm := .none } := by simp
  have ea : Z.heap.size + i = T.heap.size := by rw [hR.1, hi]
  have CO : CellOk Z K (T.heap.push { cls := cA, slots := Array.replicate n.toNatClampNeg (defaultValue (newarray.typeOf aty)), vm := .none }) (Z.heap.size + H.length) (.inr (newarray.typeOf aty, List.replicate n.toNatClampNeg (defaultValue (newarray.typeOf aty)))) := by
    refine ⟨_, ⟨by rw [← hR.1]; exact hN, ⟨by simp, kZ, z1, comp, by rw [← h3, z3]⟩, by simp⟩, by simp [cv_default], fun v hv => ?_⟩
    rw [(List.mem_replicate.mp hv).2]
    cases aty <;> rfl
  have := h hL Z a0 p l e R s m args below meth c' _ locs (cells + 1) (slots + n.toNatClampNeg) ⟨X', hx, hZ, hw, hby, hml, hrt, hnm, hlk, hown, hR.push CO, hFr, hr1, by show cells + 1 + (rm.cells - 1) ≤ _; omega, by show slots + n.toNatClampNeg + (rm.slots - n.toNatClampNeg) ≤ _; omega, hr4⟩
  refine this.steps fun t ht => st t ?_
  rw [← ea]; exact ht
theorem W.arraylength {i : Nat} {ty : FieldType} {vs : List Value} (hd : decode μ.2.1 pc = .ok (.arraylength, 1)) (hH : H[i]? = some (.inr (ty, vs))) (h : W tb K μ rm (pc + 1) L (.int (Int32.ofNat vs.length) :: S) H Q) : W tb K μ rm pc L (.ref i :: S) H Q := by
  intro hL Z a0 p l e R s m args below meth c' T locs cells slots X
  have X' := X
  obtain ⟨X0, hx, hZ, hw, hby, hml, hrt, hnm, hlk, hown, hR, hr⟩ := X
  obtain ⟨cell, A, k2, k3⟩ := hR.2 _ _ hH
  refine (h hL Z a0 p l e R s m args below meth c' T locs cells slots X').steps fun t ht => ?_
  refine X0.arraylength hx A.1 (State.isArrayOf_alike hZ.alike A.2.1) (g := mkF m pc (L.map (cs Z.heap.size)).toArray ((Value.ref i :: S).map (cv Z.heap.size))) rfl rfl (hb hby hd) t ?_
  have e : cell.slots.size.toInt32 = Int32.ofNat vs.length := by rw [k2]; simp
  rw [e]; exact ht
theorem W.xaload {ins : Instr} {ty : FieldType} (hk : (ins = .iaload ∧ ty = .int) ∨ (ins = .laload ∧ ty = .long) ∨ (ins = .baload ∧ (ty = .byte ∨ ty = .boolean))) {i N : Nat} {j : Int32} {vs : List Value} {v : Value} (hd : decode μ.2.1 pc = .ok (ins, 1)) (hH : H[i]? = some (.inr (ty, vs))) (hj : ix j N) (hv : vs[N]? = some v)
    (h : W tb K μ rm (pc + 1) L (v :: S) H Q) : W tb K μ rm pc L (.int j :: .ref i :: S) H Q := by
  intro hL Z a0 p l e R s m args below meth c' T locs cells slots X
  have X' := X
  obtain ⟨X0, hx, hZ, hw, hby, hml, hrt, hnm, hlk, hown, hR, hr⟩ := X
  obtain ⟨cell, A, k2, k3⟩ := hR.2 _ _ hH
  have hN := hj.2
  have hin := inb k2 hj.1 hN (List.getElem?_eq_some_iff.mp hv).1
  have hv' : cell.slots[j.toNatClampNeg]? = some (cv Z.heap.size v) := by rw [k2, hN]; simp [hv]
  refine (h hL Z a0 p l e R s m args below meth c' T locs cells slots X').steps fun t ht => ?_
  rcases hk with ⟨rfl, rfl⟩ | ⟨rfl, rfl⟩ | ⟨rfl, rfl | rfl⟩
  · exact X0.iaload hx A.1 (State.isArrayOf_alike hZ.alike A.2.1) A.2.2 hin hv' (g := mkF m pc (L.map (cs Z.heap.size)).toArray ((Value.int j :: Value.ref i :: S).map (cv Z.heap.size))) rfl rfl (hb hby hd) t ht
  · exact X0.laload hx A.1 (State.isArrayOf_alike hZ.alike A.2.1) A.2.2 hin hv' (g := mkF m pc (L.map (cs Z.heap.size)).toArray ((Value.int j :: Value.ref i :: S).map (cv Z.heap.size))) rfl rfl (hb hby hd) t ht
  · exact X0.baloadBytes hx A.1 (State.isArrayOf_alike hZ.alike A.2.1) A.2.2 hin hv' (g := mkF m pc (L.map (cs Z.heap.size)).toArray ((Value.int j :: Value.ref i :: S).map (cv Z.heap.size))) rfl rfl (hb hby hd) t ht
  · exact X0.baloadBooleans hx A.1 (State.isArrayOf_alike hZ.alike A.2.1) A.2.2 hin hv' (g := mkF m pc (L.map (cs Z.heap.size)).toArray ((Value.int j :: Value.ref i :: S).map (cv Z.heap.size))) rfl rfl (hb hby hd) t ht
theorem W.iastore {i N : Nat} {j x : Int32} {vs : List Value} (hd : decode μ.2.1 pc = .ok (.iastore, 1)) (hH : H[i]? = some (.inr (.int, vs))) (hj : ix j N) (hl : Nat.blt N vs.length = true)
    (h : W tb K μ rm (pc + 1) L S (H.set i (.inr (.int, vs.set N (.int x)))) Q) : W tb K μ rm pc L (.int x :: .int j :: .ref i :: S) H Q := by
  intro hL Z a0 p l e R s m args below meth c' T locs cells slots X
  obtain ⟨X0, hx, hZ, hw, hby, hml, hrt, hnm, hlk, hown, hR, hFr, hr⟩ := X
  have CO := hR.2 _ _ hH
  obtain ⟨cell, A, k2, k3⟩ := CO
  obtain ⟨T1, h1, X1, e1, W1, st⟩ := stI X0 hx hZ rfl A (inb k2 hj.1 hj.2 (Nat.blt_eq.mp hl)) (g := mkF m pc (L.map (cs Z.heap.size)).toArray ((Value.int x :: Value.int j :: Value.ref i :: S).map (cv Z.heap.size))) rfl rfl (hb hby hd)
  rw [hj.2] at W1
  exact (h hL Z a0 p l e R s m args below meth c' T1 _ cells slots ⟨X1, hx, hZ, hw, hby, hml, hrt, hnm, hlk, hown, e1 ▸ hR.set W1 (CellOk.sto (v := .int x) W1 (hR.2 _ _ hH) rfl), Fr.snoc X1 hFr (Nat.le_add_right _ _), hr⟩).steps st
theorem W.lastore {i N : Nat} {j : Int32} {x : Int64} {vs : List Value} (hd : decode μ.2.1 pc = .ok (.lastore, 1)) (hH : H[i]? = some (.inr (.long, vs))) (hj : ix j N) (hl : Nat.blt N vs.length = true)
    (h : W tb K μ rm (pc + 1) L S (H.set i (.inr (.long, vs.set N (.long x)))) Q) : W tb K μ rm pc L (.long x :: .int j :: .ref i :: S) H Q := by
  intro hL Z a0 p l e R s m args below meth c' T locs cells slots X
  obtain ⟨X0, hx, hZ, hw, hby, hml, hrt, hnm, hlk, hown, hR, hFr, hr⟩ := X
  have CO := hR.2 _ _ hH
  obtain ⟨cell, A, k2, k3⟩ := CO
  obtain ⟨T1, h1, X1, e1, W1, st⟩ := stJ X0 hx hZ rfl A (inb k2 hj.1 hj.2 (Nat.blt_eq.mp hl)) (g := mkF m pc (L.map (cs Z.heap.size)).toArray ((Value.long x :: Value.int j :: Value.ref i :: S).map (cv Z.heap.size))) rfl rfl (hb hby hd)
  rw [hj.2] at W1
  exact (h hL Z a0 p l e R s m args below meth c' T1 _ cells slots ⟨X1, hx, hZ, hw, hby, hml, hrt, hnm, hlk, hown, e1 ▸ hR.set W1 (CellOk.sto (v := .long x) W1 (hR.2 _ _ hH) rfl), Fr.snoc X1 hFr (Nat.le_add_right _ _), hr⟩).steps st
theorem W.bastore {i N : Nat} {j x : Int32} {vs : List Value} (hd : decode μ.2.1 pc = .ok (.bastore, 1)) (hH : H[i]? = some (.inr (.byte, vs))) (hj : ix j N) (hl : Nat.blt N vs.length = true)
    (h : W tb K μ rm (pc + 1) L S (H.set i (.inr (.byte, vs.set N (.int x.toInt8.toInt32)))) Q) : W tb K μ rm pc L (.int x :: .int j :: .ref i :: S) H Q := by
  intro hL Z a0 p l e R s m args below meth c' T locs cells slots X
  obtain ⟨X0, hx, hZ, hw, hby, hml, hrt, hnm, hlk, hown, hR, hFr, hr⟩ := X
  have CO := hR.2 _ _ hH
  obtain ⟨cell, A, k2, k3⟩ := CO
  obtain ⟨T1, h1, X1, e1, W1, st⟩ := stB X0 hx hZ rfl A (inb k2 hj.1 hj.2 (Nat.blt_eq.mp hl)) (g := mkF m pc (L.map (cs Z.heap.size)).toArray ((Value.int x :: Value.int j :: Value.ref i :: S).map (cv Z.heap.size))) rfl rfl (hb hby hd)
  rw [hj.2] at W1
  exact (h hL Z a0 p l e R s m args below meth c' T1 _ cells slots ⟨X1, hx, hZ, hw, hby, hml, hrt, hnm, hlk, hown, e1 ▸ hR.set W1 (CellOk.sto (v := .int x.toInt8.toInt32) W1 (hR.2 _ _ hH) (fits_nar_byte x)), Fr.snoc X1 hFr (Nat.le_add_right _ _), hr⟩).steps st
theorem W.bastoreZ {i N : Nat} {j x : Int32} {vs : List Value} (hd : decode μ.2.1 pc = .ok (.bastore, 1)) (hH : H[i]? = some (.inr (.boolean, vs))) (hj : ix j N) (hl : Nat.blt N vs.length = true)
    (h : W tb K μ rm (pc + 1) L S (H.set i (.inr (.boolean, vs.set N (.int (x &&& 1))))) Q) : W tb K μ rm pc L (.int x :: .int j :: .ref i :: S) H Q := by
  intro hL Z a0 p l e R s m args below meth c' T locs cells slots X
  obtain ⟨X0, hx, hZ, hw, hby, hml, hrt, hnm, hlk, hown, hR, hFr, hr⟩ := X
  have CO := hR.2 _ _ hH
  obtain ⟨cell, A, k2, k3⟩ := CO
  obtain ⟨T1, h1, X1, e1, W1, st⟩ := stZ X0 hx hZ rfl A (inb k2 hj.1 hj.2 (Nat.blt_eq.mp hl)) (g := mkF m pc (L.map (cs Z.heap.size)).toArray ((Value.int x :: Value.int j :: Value.ref i :: S).map (cv Z.heap.size))) rfl rfl (hb hby hd)
  rw [hj.2] at W1
  exact (h hL Z a0 p l e R s m args below meth c' T1 _ cells slots ⟨X1, hx, hZ, hw, hby, hml, hrt, hnm, hlk, hown, e1 ▸ hR.set W1 (CellOk.sto (v := .int (x &&& 1)) W1 (hR.2 _ _ hH) (fits_nar_bool x)), Fr.snoc X1 hFr (Nat.le_add_right _ _), hr⟩).steps st
theorem W.ldcInt {idx : Nat} {x : Int32} (hd : decode μ.2.1 pc = .ok (.ldc idx, 2)) (w : Cond.constant μ.1.cls idx x ∈ tb) (h : W tb K μ rm (pc + 2) L (.int x :: S) H Q) : W tb K μ rm pc L S H Q := by
  intro hL Z a0 p l e R s m args below meth c' T locs cells slots X
  have X' := X
  obtain ⟨X0, hx, hZ, hw, hby, hml, hrt, hnm, hlk, hown, hR, hr⟩ := X
  exact (h hL Z a0 p l e R s m args below meth c' T locs cells slots X').steps (X0.ldcInt hx hown (mvT hZ (hw _ w)) (g := mkF m pc (L.map (cs Z.heap.size)).toArray (S.map (cv Z.heap.size))) rfl (hb hby hd))
theorem W.ldcLong {idx : Nat} {x : Int64} (hd : decode μ.2.1 pc = .ok (.ldc2_w idx, 3)) (w : Cond.constantLong μ.1.cls idx x ∈ tb) (h : W tb K μ rm (pc + 3) L (.long x :: S) H Q) : W tb K μ rm pc L S H Q := by
  intro hL Z a0 p l e R s m args below meth c' T locs cells slots X
  have X' := X
  obtain ⟨X0, hx, hZ, hw, hby, hml, hrt, hnm, hlk, hown, hR, hr⟩ := X
  exact (h hL Z a0 p l e R s m args below meth c' T locs cells slots X').steps (X0.ldc2Long hx hown (mvT hZ (hw _ w)) (g := mkF m pc (L.map (cs Z.heap.size)).toArray (S.map (cv Z.heap.size))) rfl (hb hby hd))
end Logic
end Jvm.Own
namespace Jvm.Own
open Sem ClassFile Op Lib Jvm.Stand Jvm.Free Jvm.LawKit Jvm.RoadKit
section Logic
variable {tb : List Cond} {K : KTab} {μ μ' : Mth} {rm rm' : Room} {pc : Nat} {L : List Slot} {S : List Value} {H : AHeap} {Q Q' : Option Value → AHeap → Prop}
theorem W.ret_ (hd : decode μ.2.1 pc = .ok (.return_, 1)) (hr0 : μ.2.2.2 = none) (hQ : Q none H) : W tb K μ rm pc L [] H Q := by
  intro hL Z a0 p l e R s m args below meth c' T locs cells slots X
  obtain ⟨X0, hx, hZ, hw, hby, hml, hrt, hnm, hlk, hown, hR, hFr, hr1, hr2, hr3, hr4⟩ := X
  obtain ⟨fs, hr, hrun, hended, hW, hsame⟩ := X0.leave (v := none) (fun _ => rfl) hlk
  exact ⟨none, H, T, locs, fs, hQ, X0.returnOut hx (hrt.trans hr0) (hb hby hd) hr, hrun, hended, hW, hsame.mono (by omega) (by omega), hFr, hR⟩
theorem W.ireturn {x : Int32} (hd : decode μ.2.1 pc = .ok (.ireturn, 1)) (hr0 : μ.2.2.2 = some .int) (hQ : Q (some (.int x)) H) : W tb K μ rm pc L (.int x :: S) H Q := by
  intro hL Z a0 p l e R s m args below meth c' T locs cells slots X
  obtain ⟨X0, hx, hZ, hw, hby, hml, hrt, hnm, hlk, hown, hR, hFr, hr1, hr2, hr3, hr4⟩ := X
  obtain ⟨fs, hr, hrun, hended, hW, hsame⟩ := X0.leave (v := some (.int x)) (fun h => by rw [hrt, hr0] at h; cases h) hlk
  exact ⟨some (.int x), H, T, locs, fs, hQ, retOut X0 hx (hrt.trans hr0) rfl (Or.inl ⟨rfl, Or.inl rfl, _, rfl⟩) (hb hby hd) hr, hrun, hended, hW, hsame.mono (by omega) (by omega), hFr, hR⟩
theorem W.ireturnN {t : FieldType} {x : Int32} (hd : decode μ.2.1 pc = .ok (.ireturn, 1)) (hr0 : μ.2.2.2 = some t) (ht : t = .boolean ∨ t = .byte ∨ t = .char ∨ t = .short) (hQ : Q (some (.int (nar t x))) H) : W tb K μ rm pc L (.int x :: S) H Q := by
  intro hL Z a0 p l e R s m args below meth c' T locs cells slots X
  obtain ⟨X0, hx, hZ, hw, hby, hml, hrt, hnm, hlk, hown, hR, hFr, hr1, hr2, hr3, hr4⟩ := X
  obtain ⟨fs, hr, hrun, hended, hW, hsame⟩ := X0.leave (v := some (.int (nar t x))) (fun h => by rw [hrt, hr0] at h; cases h) hlk
  exact ⟨some (.int (nar t x)), H, T, locs, fs, hQ, retN X0 hx (hrt.trans hr0) ht (hb hby hd) hr, hrun, hended, hW, hsame.mono (by omega) (by omega), hFr, hR⟩
theorem W.ireturnZ {x : Int32} (hd : decode μ.2.1 pc = .ok (.ireturn, 1)) (hr0 : μ.2.2.2 = some .boolean) (hQ : Q (some (.int (x &&& 1))) H) : W tb K μ rm pc L (.int x :: S) H Q := W.ireturnN hd hr0 (Or.inl rfl) hQ
theorem W.lreturn {x : Int64} (hd : decode μ.2.1 pc = .ok (.lreturn, 1)) (hr0 : μ.2.2.2 = some .long) (hQ : Q (some (.long x)) H) : W tb K μ rm pc L (.long x :: S) H Q := by
  intro hL Z a0 p l e R s m args below meth c' T locs cells slots X
  obtain ⟨X0, hx, hZ, hw, hby, hml, hrt, hnm, hlk, hown, hR, hFr, hr1, hr2, hr3, hr4⟩ := X
  obtain ⟨fs, hr, hrun, hended, hW, hsame⟩ := X0.leave (v := some (.long x)) (fun h => by rw [hrt, hr0] at h; cases h) hlk
  exact ⟨some (.long x), H, T, locs, fs, hQ, retOut X0 hx (hrt.trans hr0) rfl (Or.inr (Or.inl ⟨rfl, rfl, _, rfl⟩)) (hb hby hd) hr, hrun, hended, hW, hsame.mono (by omega) (by omega), hFr, hR⟩
theorem W.areturn {t : FieldType} {v : Value} (hd : decode μ.2.1 pc = .ok (.areturn, 1)) (hr0 : μ.2.2.2 = some t) (ht : t.isReference = true) (hv : v.isRef = true) (hQ : Q (some v) H) : W tb K μ rm pc L (v :: S) H Q := by
  intro hL Z a0 p l e R s m args below meth c' T locs cells slots X
  obtain ⟨X0, hx, hZ, hw, hby, hml, hrt, hnm, hlk, hown, hR, hFr, hr1, hr2, hr3, hr4⟩ := X
  obtain ⟨fs, hr, hrun, hended, hW, hsame⟩ := X0.leave (v := some (cv Z.heap.size v)) (fun h => by rw [hrt, hr0] at h; cases h) hlk
  exact ⟨some v, H, T, locs, fs, hQ, retOut X0 hx (hrt.trans hr0) (by cases v <;> first | (cases t <;> rfl) | cases hv) (Or.inr (Or.inr (Or.inr (Or.inr ⟨rfl, ht, by rw [cv_isRef]; exact hv⟩)))) (hb hby hd) hr, hrun, hended, hW, hsame.mono (by omega) (by omega), hFr, hR⟩
/-- what a call leaves of the room -/
abbrev less (rm rm' : Room) : Room := ⟨rm.frames, rm.cells - rm'.cells, rm.slots - rm'.slots, rm.locals⟩
abbrev wt (S : List Value) : Nat := (S.map fun v => v.category).sum
abbrev plainCls (μ' : Mth) : Prop := μ'.1.cls ≠ "java/lang/invoke/MethodHandle" ∧ μ'.1.cls ≠ "java/lang/invoke/VarHandle"
/-- room for a call: S stays on the stack, n locals -/
def rok (rm rm' : Room) (n : Nat) (S : List Value) : Bool := Nat.ble (rm'.frames + 1) rm.frames && (Nat.ble (wt S + (n + 11) + rm'.locals) rm.locals && (Nat.ble rm'.cells rm.cells && Nat.ble rm'.slots rm.slots))
theorem rok_spec {rm rm' : Room} {n : Nat} {S : List Value} (h : rok rm rm' n S = true) : rm'.frames + 1 ≤ rm.frames ∧ wt S + (n + 11) + rm'.locals ≤ rm.locals ∧ rm'.cells ≤ rm.cells ∧ rm'.slots ≤ rm.slots := by
  simp only [rok, Bool.and_eq_true, Nat.ble_eq] at h
  exact h
/-- room for Object's constructor -/
def iok (rm : Room) (S : List Value) : Bool := Nat.ble 1 rm.frames && Nat.ble (wt S + 12) rm.locals
/-- a callee that answers one value and leaves one heap -/
abbrev Is (v0 : Option Value) (H0 : AHeap) : Option Value → AHeap → Prop := fun v H => v = v0 ∧ H = H0
theorem hs {H : AHeap} {i : Nat} {c c' : ACell} (h : H[i]? = some c) : (H.set i c')[i]? = some c' := List.getElem?_set_self (List.getElem?_eq_some_iff.mp h).1
theorem hn {H : AHeap} {i j : Nat} {c c' : ACell} (h : H[j]? = some c) (ne : i ≠ j) : (H.set i c')[j]? = some c := by rw [List.getElem?_set_ne ne]; exact h
theorem ha {H H' : AHeap} {j : Nat} {c : ACell} (h : H[j]? = some c) : (H ++ H')[j]? = some c := by rw [List.getElem?_append_left (List.getElem?_eq_some_iff.mp h).1]; exact h
theorem back_st (k : Nat) (v : Option Value) (S : List Value) : (v.map (cv k)).toList ++ S.map (cv k) = (v.toList ++ S).map (cv k) := by cases v <;> rfl
theorem W.callS {idx : Nat} {as : List Value} {S0 : List Value} {ps : List FieldType} {r : Option FieldType} (hd : decode μ.2.1 pc = .ok (.invokestatic idx, 3)) (w1 : Cond.methodLink μ.1.cls idx μ'.1 ∈ tb) (w2 : Cond.static μ'.1 ∈ tb) (w3 : Cond.initialized μ'.1.cls ∈ tb) (w4 : Cond.code μ'.1 μ'.2.1 μ'.2.2.1 μ'.2.2.2 ∈ tb) (hy : plainCls μ')
    (hp : parseMethodDescriptor μ'.1.desc = some ⟨ps, r⟩) (hlen : as.length = ps.length) (hS : S0 = as.reverse ++ S) (hM : M tb K μ' rm' as H Q') (hr : rok rm rm' μ'.2.2.1 S = true)
    (h : ∀ v H', Q' v H' → W tb K μ (less rm rm') (pc + 3) L (v.toList ++ S) H' Q) : W tb K μ rm pc L S0 H Q := by
  intro hL Z a0 p l e R s m args below meth c' T locs cells slots X
  obtain ⟨X0, hx, hZ, hw, hby, hml, hrt, hnm, hlk, hown, hR, hFr, hr1, hr2, hr3, hr4⟩ := X
  obtain ⟨hf, hl, hc, hs⟩ := rok_spec hr
  obtain ⟨_, vm1, ⟨T1, L1, k1, n1⟩, hW1, X1, ⟨Lc, ⟨v', H', rfl, hR', hq', hFr'⟩, l1, y1, z1⟩, st⟩ := Jvm.LawKit.callS X0 hx (y := μ'.1) hown (mvT hZ (hw _ w1)) (mvT hZ (hw _ w2)) (mvT hZ (hw _ w3)) (mvT hZ (hw _ w4)) hy (backOf (R := R) (rm := rm') (h := T.heap) (Q := fun v h L => ∃ v' H', v = Option.map (cv Z.heap.size) v' ∧ Rel Z K h H' ∧ Q' v' H' ∧ Fr Z.heap.size L) (W := wt S) (hM Z a0 hw l T.heap [] hR) hZ (hw _ w4) (hw _ w3) (by omega) (by omega))
    (g := mkF m pc (L.map (cs Z.heap.size)).toArray (S0.map (cv Z.heap.size))) rfl (by simp [hL, hml]) (argsL := as.map (cv Z.heap.size)) (rest := S.map (cv Z.heap.size)) (lenOf hp (by simpa using hlen)) (by rw [hS]; simp) (by show 2 * 0 + _ ≤ _; rw [cat_map]; exact Nat.le_of_eq (by simp)) (hb hby hd) (fun _ _ => ⟨rfl, rfl, by show cells + _ ≤ _; omega, by show slots + _ ≤ _; omega⟩)
  dsimp only [Pt.U, Pt.locs, Pt.cells, Pt.slots] at X1 l1 y1 z1 st hR'
  subst l1 y1 z1
  rw [back_st] at st
  exact (h v' H' hq' hL Z a0 p l e R s m args below meth c' T1 _ _ _ ⟨X1, hx, hZ, hw, hby, hml, hrt, hnm, hlk, hown, hR', Fr.app hFr hFr', hr1, by show cells + _ + (rm.cells - _) ≤ _; omega, by show slots + _ + (rm.slots - _) ≤ _; omega, hr4⟩).steps st
theorem W.callI {idx i : Nat} {as : List Value} {S0 : List Value} {ps : List FieldType} {r : Option FieldType} (hd : decode μ.2.1 pc = .ok (.invokespecial idx, 3)) (hn : μ'.1.name = "<init>") (hr0 : μ'.2.2.2 = none) (w1 : Cond.methodLink μ.1.cls idx μ'.1 ∈ tb) (w2 : Cond.instanceMethod μ'.1 ∈ tb) (w3 : Cond.initialized μ'.1.cls ∈ tb) (w4 : Cond.code μ'.1 μ'.2.1 μ'.2.2.1 μ'.2.2.2 ∈ tb) (hy : plainCls μ')
    (hp : parseMethodDescriptor μ'.1.desc = some ⟨ps, r⟩) (hlen : as.length = ps.length) (hS : S0 = as.reverse ++ .ref i :: S) (hM : M tb K μ' rm' (.ref i :: as) H Q') (hr : rok rm rm' μ'.2.2.1 S = true)
    (h : ∀ v H', Q' v H' → W tb K μ (less rm rm') (pc + 3) L (v.toList ++ S) H' Q) : W tb K μ rm pc L S0 H Q := by
  intro hL Z a0 p l e R s m args below meth c' T locs cells slots X
  obtain ⟨X0, hx, hZ, hw, hby, hml, hrt, hnm, hlk, hown, hR, hFr, hr1, hr2, hr3, hr4⟩ := X
  obtain ⟨hf, hl, hc, hs⟩ := rok_spec hr
  have w4' : (Cond.code μ'.1 μ'.2.1 μ'.2.2.1 none).before a0 Z = true := by have q := hw _ w4; rw [hr0] at q; exact q
  obtain ⟨_, vm1, ⟨T1, L1, k1, n1⟩, hW1, X1, ⟨Lc, ⟨v', H', rfl, hR', hq', hFr'⟩, l1, y1, z1⟩, st⟩ := X0.specialBack hx (y := μ'.1) hn hown (mvT hZ (hw _ w1)) (mvT hZ (hw _ w2)) (mvT hZ w4') hy (backOf (R := R) (rm := rm') (h := T.heap) (Q := fun v h L => ∃ v' H', v = Option.map (cv Z.heap.size) v' ∧ Rel Z K h H' ∧ Q' v' H' ∧ Fr Z.heap.size L) (W := wt S) (hM Z a0 hw l T.heap [] hR) hZ (hw _ w4) (hw _ w3) (by omega) (by omega))
    (g := mkF m pc (L.map (cs Z.heap.size)).toArray (S0.map (cv Z.heap.size))) rfl (by simp [hL, hml]) (Steps.refl _) (a := Z.heap.size + i) (argsL := as.map (cv Z.heap.size)) (rest := S.map (cv Z.heap.size)) (lenOf hp (by simpa using hlen)) (by rw [hS]; simp [cv]) (by show 2 * 0 + _ ≤ _; rw [cat_map]; exact Nat.le_of_eq (by simp)) (hb hby hd) (fun _ _ => ⟨rfl, rfl, by show cells + _ ≤ _; omega, by show slots + _ ≤ _; omega⟩)
  dsimp only [Pt.U, Pt.locs, Pt.cells, Pt.slots] at X1 l1 y1 z1 st hR'
  subst l1 y1 z1
  rw [back_st] at st
  exact (h v' H' hq' hL Z a0 p l e R s m args below meth c' T1 _ _ _ ⟨X1, hx, hZ, hw, hby, hml, hrt, hnm, hlk, hown, hR', Fr.app hFr hFr', hr1, by show cells + _ + (rm.cells - _) ≤ _; omega, by show slots + _ + (rm.slots - _) ≤ _; omega, hr4⟩).steps (fun t ht => st.trans ht)
/-- the opcode that returns nothing -/
def opReturn : UInt8 := 177
/-- java/lang/Object's constructor -/
theorem W.initO {idx i : Nat} (hd : decode μ.2.1 pc = .ok (.invokespecial idx, 3)) (w1 : Cond.methodLink μ.1.cls idx Lib.objectInit ∈ tb) (w2 : Cond.instanceMethod Lib.objectInit ∈ tb) (w3 : Cond.code Lib.objectInit ⟨#[opReturn]⟩ 1 none ∈ tb) (hr : iok rm S = true)
    (h : W tb K μ rm (pc + 3) L S H Q) : W tb K μ rm pc L (.ref i :: S) H Q := by
  intro hL Z a0 p l e R s m args below meth c' T locs cells slots X
  obtain ⟨X0, hx, hZ, hw, hby, hml, hrt, hnm, hlk, hown, hR, hFr, hr1, hr2, hr3, hr4⟩ := X
  simp only [iok, Bool.and_eq_true, Nat.ble_eq] at hr
  obtain ⟨hf, hl⟩ := hr
  obtain ⟨T1, X1, e1, st⟩ := RoadKit.initO X0 hx hZ hown (hw _ w1) (hw _ w2) (hw _ w3) rfl (g := mkF m pc (L.map (cs Z.heap.size)).toArray ((Value.ref i :: S).map (cv Z.heap.size))) rfl (by simp [hL, hml]) rfl (hb hby hd) (by omega) (W := wt S) (by show 2 * 0 + _ ≤ _; rw [cat_map]; exact Nat.le_of_eq (by simp)) (by omega)
  exact (h hL Z a0 p l e R s m args below meth c' T1 locs cells slots ⟨X1, hx, hZ, hw, hby, hml, hrt, hnm, hlk, hown, e1 ▸ hR, hFr, hr1, hr2, hr3, hr4⟩).steps st
theorem W.callV {idx i c n : Nat} {C : String} {fs : List (String × String × String × FieldType)} {vs : List Value} {y : MethodName} {as : List Value} {S0 : List Value} {ps : List FieldType} {r : Option FieldType} (hd : decode μ.2.1 pc = .ok (.invokevirtual idx, 3)) (w1 : Cond.methodLink μ.1.cls idx y ∈ tb) (w2 : Cond.declares y ∈ tb) (w3 : Cond.selects C y μ'.1 ∈ tb) (hnf : y = μ'.1 ∨ ∃ q ∈ K, q.1 = y.cls) (hKO : KOk tb K)
    (w4 : Cond.instanceMethod μ'.1 ∈ tb) (w5 : Cond.initialized μ'.1.cls ∈ tb) (w6 : Cond.code μ'.1 μ'.2.1 μ'.2.2.1 μ'.2.2.2 ∈ tb) (hy : y.cls ≠ "java/lang/invoke/MethodHandle" ∧ y.cls ≠ "java/lang/invoke/VarHandle") (hK : K[c]? = some (C, n, fs)) (hp : parseMethodDescriptor y.desc = some ⟨ps, r⟩) (hlen : as.length = ps.length) (hS : S0 = as.reverse ++ .ref i :: S)
    (hH : H[i]? = some (.inl (c, vs))) (hM : M tb K μ' rm' (.ref i :: as) H Q') (hr : rok rm rm' μ'.2.2.1 S = true)
    (h : ∀ v H', Q' v H' → W tb K μ (less rm rm') (pc + 3) L (v.toList ++ S) H' Q) : W tb K μ rm pc L S0 H Q := by
  intro hL Z a0 p l e R s m args below meth c' T locs cells slots X
  obtain ⟨X0, hx, hZ, hw, hby, hml, hrt, hnm, hlk, hown, hR, hFr, hr1, hr2, hr3, hr4⟩ := X
  obtain ⟨hf, hl, hc, hs⟩ := rok_spec hr
  obtain ⟨C', n', fs', q1, q2, q3, q4⟩ := hR.2 _ _ hH
  cases hK.symm.trans q1
  obtain ⟨cB, kB, b1, b2, b3⟩ := isOf (T := T) hZ rfl q3
  have nf : NotFace s y := by
    rcases hnf with rfl | ⟨q, hq, hqc⟩
    · exact notFace_of_selects (args := #[]) (mvT hZ (hw _ w3))
    · intro r0 h0
      have g1 := findClass_of_methodNamed h0
      obtain ⟨c1, k1, i1, i2, i3, i4, -⟩ := Cond.instantiable_spec (args := #[]) (s := s) (mv hZ (hw _ (hKO q hq).1))
      rw [hqc] at i1
      cases g1.symm.trans i1
      exact ⟨k1, i2, by simp only [Bool.or_eq_false_iff] at i4; exact i4.1⟩
  obtain ⟨_, vm1, ⟨T1, L1, k1, n1⟩, hW1, X1, ⟨Lc, ⟨v', H', rfl, hR', hq', hFr'⟩, l1, y1, z1⟩, st⟩ := X0.virtualBack hx (y := y) (z := μ'.1) hown (mvT hZ (hw _ w1)) (mvT hZ (hw _ w2)) nf (mvT hZ (hw _ w3)) (mvT hZ (hw _ w4)) hy (backOf (R := R) (rm := rm') (h := T.heap) (Q := fun v h L => ∃ v' H', v = Option.map (cv Z.heap.size) v' ∧ Rel Z K h H' ∧ Q' v' H' ∧ Fr Z.heap.size L) (W := wt S) (hM Z a0 hw l T.heap [] hR) hZ (hw _ w6) (hw _ w5) (by omega) (by omega)) b1 b3
    (g := mkF m pc (L.map (cs Z.heap.size)).toArray (S0.map (cv Z.heap.size))) rfl (by simp [hL, hml]) (Steps.refl _) (argsL := as.map (cv Z.heap.size)) (rest := S.map (cv Z.heap.size)) (lenOf hp (by simpa using hlen)) (by rw [hS]; simp [cv]) (by show 2 * 0 + _ ≤ _; rw [cat_map]; exact Nat.le_of_eq (by simp)) (hb hby hd) (fun _ _ => ⟨rfl, rfl, by show cells + _ ≤ _; omega, by show slots + _ ≤ _; omega⟩)
  dsimp only [Pt.U, Pt.locs, Pt.cells, Pt.slots] at X1 l1 y1 z1 st hR'
  subst l1 y1 z1
  rw [back_st] at st
  exact (h v' H' hq' hL Z a0 p l e R s m args below meth c' T1 _ _ _ ⟨X1, hx, hZ, hw, hby, hml, hrt, hnm, hlk, hown, hR', Fr.app hFr hFr', hr1, by show cells + _ + (rm.cells - _) ≤ _; omega, by show slots + _ + (rm.slots - _) ≤ _; omega, hr4⟩).steps (fun t ht => st.trans ht)
/-- a private method, by invokevirtual -/
theorem W.callP {idx i c n : Nat} {C : String} {fs : List (String × String × String × FieldType)} {vs : List Value} {as : List Value} {S0 : List Value} {ps : List FieldType} {r : Option FieldType} (hd : decode μ.2.1 pc = .ok (.invokevirtual idx, 3)) (w1 : Cond.methodLink μ.1.cls idx μ'.1 ∈ tb) (w2 : Cond.privateMethod μ'.1 ∈ tb) (hKO : KOk tb K)
    (w4 : Cond.instanceMethod μ'.1 ∈ tb) (w5 : Cond.initialized μ'.1.cls ∈ tb) (w6 : Cond.code μ'.1 μ'.2.1 μ'.2.2.1 μ'.2.2.2 ∈ tb) (hy : plainCls μ') (hK : K[c]? = some (C, n, fs)) (hC : C = μ'.1.cls) (hp : parseMethodDescriptor μ'.1.desc = some ⟨ps, r⟩) (hlen : as.length = ps.length) (hS : S0 = as.reverse ++ .ref i :: S)
    (hH : H[i]? = some (.inl (c, vs))) (hM : M tb K μ' rm' (.ref i :: as) H Q') (hr : rok rm rm' μ'.2.2.1 S = true)
    (h : ∀ v H', Q' v H' → W tb K μ (less rm rm') (pc + 3) L (v.toList ++ S) H' Q) : W tb K μ rm pc L S0 H Q := by
  intro hL Z a0 p l e R s m args below meth c' T locs cells slots X
  obtain ⟨X0, hx, hZ, hw, hby, hml, hrt, hnm, hlk, hown, hR, hFr, hr1, hr2, hr3, hr4⟩ := X
  obtain ⟨hf, hl, hc, hs⟩ := rok_spec hr
  obtain ⟨C', n', fs', q1, q2, q3, q4⟩ := hR.2 _ _ hH
  cases hK.symm.trans q1
  obtain ⟨cell, c1, c2⟩ := q3.cell
  obtain ⟨mk, methM, m1, m2, m3, m4⟩ := Cond.instanceMethod_spec (args := args) (mv hZ (hw _ w4))
  obtain ⟨methM', cM, hmethM', -, -, -, -, -, -, hsigM⟩ := Cond.code_spec m1 (mv (args := args) hZ (hw _ w6))
  cases m2.symm.trans hmethM'
  obtain ⟨cc, kk, i1, i2, i3, i4, -⟩ := Cond.instantiable_spec (args := args) (s := s) (mv hZ (hw _ (hKO _ (mem_of_get hK)).1))
  have g1 := findClass_of_methodNamed m1
  rw [← hC] at g1
  cases g1.symm.trans i1
  have hni : kk.isInterface = false := by simp only [Bool.or_eq_false_iff] at i4; exact i4.1
  have hpriv : s.PrivateAt μ'.1 := Cond.privateMethod_at (mvP hZ (hw _ w2) (args := #[]))
  have hsel : selectMethod e.platform s.vm cell.cls mk = .method mk := selectMethod_private m2 (hpriv mk methM m1 m2)
  obtain ⟨vm1, X1', st1⟩ := X0.invokevirtual hx hown (mvT hZ (hw _ w1)) m1 m2 m3 i2 hni hy (a := Z.heap.size + i) (cell := cell) c1 c2 hsel m2 m4 i2 hni (g := mkF m pc (L.map (cs Z.heap.size)).toArray (S0.map (cv Z.heap.size))) rfl (argsL := as.map (cv Z.heap.size)) (rest := S.map (cv Z.heap.size)) (lenOf hp (by simpa using hlen) _ hsigM) (by rw [hS]; simp [cv]) (hb hby hd)
  obtain ⟨_, ⟨T1, L1, k1, n1⟩, X1, ⟨Lc, ⟨v', H', rfl, hR', hq', hFr'⟩, l1, y1, z1⟩, st⟩ := (backOf (R := R) (rm := rm') (h := T.heap) (Q := fun v h L => ∃ v' H', v = Option.map (cv Z.heap.size) v' ∧ Rel Z K h H' ∧ Q' v' H' ∧ Fr Z.heap.size L) (W := wt S) (hM Z a0 hw l T.heap [] hR) hZ (hw _ w6) (hw _ w5) (by omega) (by omega)) m meth c' ⟨T.setVm vm1, locs, cells, slots⟩ (mkF m pc (L.map (cs Z.heap.size)).toArray (S.map (cv Z.heap.size))) (.invokevirtual idx) mk (.ref (Z.heap.size + i) :: as.map (cv Z.heap.size)).toArray X1' rfl (by simp [hL, hml]) (hb hby hd) (by show 2 * 0 + _ ≤ _; rw [cat_map]; exact Nat.le_of_eq (by simp)) (X1'.named m1) ⟨rfl, rfl, by show cells + _ ≤ _; omega, by show slots + _ ≤ _; omega⟩
  dsimp only [Pt.U, Pt.locs, Pt.cells, Pt.slots] at X1 l1 y1 z1 st hR'
  subst l1 y1 z1
  rw [back_st] at st
  exact (h v' H' hq' hL Z a0 p l e R s m args below meth c' T1 _ _ _ ⟨X1, hx, hZ, hw, hby, hml, hrt, hnm, hlk, hown, hR', Fr.app hFr hFr', hr1, by show cells + _ + (rm.cells - _) ≤ _; omega, by show slots + _ + (rm.slots - _) ≤ _; omega, hr4⟩).steps (fun t ht => (st1 _ fun acts => by rw [doInvoke_state]; exact Steps.refl _).trans (st.trans ht))
/-- the locals at the entry -/
def ent : List Value → List Slot
  | [] => []
  | v :: r => if v.category = 2 then .val v :: .second :: ent r else .val v :: ent r
theorem ent_map (k : Nat) (as : List Value) : ent (as.map (cv k)) = (ent as).map (cs k) := by
  induction as with
  | nil => rfl
  | cons v r ih => by_cases h : v.category = 2 <;> simp [ent, h, cv_cat, ih, cs]
theorem fold_ent (as : List Value) : ∀ acc : Array Slot, as.foldl (fun acc v => if v.category = 2 then (acc.push (.val v)).push .second else acc.push (.val v)) acc = acc ++ (ent as).toArray := by
  induction as with
  | nil => intro acc; simp [ent]
  | cons v r ih => intro acc; by_cases h : v.category = 2 <;> simp [ent, h, ih]
theorem locals_of (k n : Nat) (as : List Value) : argsToLocals (as.map (cv k)).toArray n = ((ent as ++ List.replicate (n - (ent as).length) Slot.unset).map (cs k)).toArray := by
  have h : (as.map (cv k)).toArray.foldl (fun (acc : Array Slot) v => if v.category = 2 then (acc.push (.val v)).push .second else acc.push (.val v)) #[] = ((ent as).map (cs k)).toArray := by
    rw [List.foldl_toArray, fold_ent, ent_map]; simp
  simp only [argsToLocals]
  rw [h]
  simp [cs]
theorem M.of {as : List Value} (hn : plainFor μ.1 = true) (hl : ent as ++ List.replicate (μ.2.2.1 - (ent as).length) .unset = L) (hl' : L.length = μ.2.2.1) (h : W tb K μ rm 0 L [] H Q) : M tb K μ rm as H Q := by
  intro Z a0 hw l h0 ws hR
  refine MetFree.of_bodySF hn hisR ?_
  intro p e s m args below meth c s₁ Bd hml0 hP hK
  obtain ⟨rfl, hZ, hh⟩ := hP
  have e0 : s₁.heap = h0 := by rw [← hh, Bd.state]; rfl
  obtain ⟨v, H', T, locs, fs, hq, st, hrun, hended, hW, hsame, hFr, hR'⟩ := h hl' Z a0 p l e rm s m _ below meth c s₁ [] 0 0 ⟨Stand.of_body Bd, Bd.exec, hZ, hw, Bd.bytes, hml0, Bd.returns, (name_of_methodNamed Bd.named Bd.method).1, Bd.notSynchronized, findClass_of_methodNamed Bd.named, e0 ▸ hR, Fr.nil _, Nat.le_refl _, Nat.le_of_eq (Nat.zero_add _), Nat.le_of_eq (Nat.zero_add _), Nat.le_refl _⟩
  have q : entryFrame m (as.map (cv Z.heap.size)).toArray μ.2.2.1 = mkF m 0 (L.map (cs Z.heap.size)).toArray [] := by
    rw [← hl, entryFrame, locals_of]
  exact ⟨_, _, castTop q st, hrun, hended, _, locs, rfl, ⟨v, H', rfl, hR', hq, hFr⟩, ⟨_, rfl⟩, hW, hsame⟩
end Logic
end Jvm.Own
namespace Jvm.Pilot.@@N@@
open Jvm Jvm.ClassFile Sem Op Lib Jvm.Free Jvm.Stand Jvm.LawKit Jvm.RoadKit Jvm.Own Bundle Jvm.Pilot.@@N@@.Jvm.D
/-! PRINTED BY gen.py: the classes, the methods, one lemma a site -/
def KT : KTab := [("com/example/binwright/binwright/core/BinContents", 5, [("com/example/binwright/binwright/core/BinContents", "first", "[I", (.array .int)), ("com/example/binwright/binwright/core/BinContents", "last", "[I", (.array .int)), ("com/example/binwright/binwright/core/BinContents", "binOf", "[I", (.array .int)), ("com/example/binwright/binwright/core/BinContents", "before", "[I", (.array .int)), ("com/example/binwright/binwright/core/BinContents", "after", "[I", (.array .int))])]
theorem kt : KOk tables_1 KT := (KOk.cons (List.mem_of_getElem? (i := 1) rfl) (fokS ⟨Or.inl (List.mem_of_getElem? (i := 11) rfl), by decide⟩ (fokS ⟨Or.inl (List.mem_of_getElem? (i := 13) rfl), by decide⟩ (fokS ⟨Or.inr (List.mem_of_getElem? (i := 15) rfl), by decide⟩ (fokS ⟨Or.inr (List.mem_of_getElem? (i := 17) rfl), by decide⟩ (fokS ⟨Or.inr (List.mem_of_getElem? (i := 19) rfl), by decide⟩ fok0))))) (by decide) KOk.nil)
abbrev μ0 : Mth := (x, code, 11, ret)
abbrev W0 := W tables_1 KT μ0
abbrev M0 := M tables_1 KT μ0
theorem pf0 : plainFor μ0.1 = true := by first | (refine plainFor_of_name ?_; simp [plainName, overriddenIn, x]; done) | decide +kernel
theorem pd0 : parseMethodDescriptor "(II)Z" = some ⟨[.int, .int], some .boolean⟩ := by decide +kernel
abbrev μ1 : Mth := (⟨"com/example/binwright/binwright/core/BinContents", "<init>", "(I)V"⟩, prog_20_method_1_code, 2, none)
abbrev W1 := W tables_1 KT μ1
abbrev M1 := M tables_1 KT μ1
theorem pf1 : plainFor μ1.1 = true := by first | (refine plainFor_of_name ?_; simp [plainName, overriddenIn, x]; done) | decide +kernel
theorem pd1 : parseMethodDescriptor "(I)V" = some ⟨[.int], none⟩ := by decide +kernel
abbrev μ2 : Mth := (⟨"com/example/binwright/binwright/core/BinContents", "add", "(II)V"⟩, prog_20_method_3_code, 3, none)
abbrev W2 := W tables_1 KT μ2
abbrev M2 := M tables_1 KT μ2
theorem pf2 : plainFor μ2.1 = true := by first | (refine plainFor_of_name ?_; simp [plainName, overriddenIn, x]; done) | decide +kernel
theorem pd2 : parseMethodDescriptor "(II)V" = some ⟨[.int, .int], none⟩ := by decide +kernel
abbrev μ3 : Mth := (⟨"com/example/binwright/binwright/core/BinContents", "items", "(I)[I"⟩, prog_20_method_5_code, 6, some (.array .int))
abbrev W3 := W tables_1 KT μ3
abbrev M3 := M tables_1 KT μ3
theorem pf3 : plainFor μ3.1 = true := by first | (refine plainFor_of_name ?_; simp [plainName, overriddenIn, x]; done) | decide +kernel
theorem pd3 : parseMethodDescriptor "(I)[I" = some ⟨[.int], some (.array .int)⟩ := by decide +kernel
abbrev μ4 : Mth := (⟨"com/example/binwright/binwright/core/BinContentsItemsPinLaw", "check", "([IIIIZZZZ)Z"⟩, method_3_code, 10, some .boolean)
abbrev W4 := W tables_1 KT μ4
abbrev M4 := M tables_1 KT μ4
theorem pf4 : plainFor μ4.1 = true := by first | (refine plainFor_of_name ?_; simp [plainName, overriddenIn, x]; done) | decide +kernel
theorem pd4 : parseMethodDescriptor "([IIIIZZZZ)Z" = some ⟨[(.array .int), .int, .int, .int, .boolean, .boolean, .boolean, .boolean], some .boolean⟩ := by decide +kernel
abbrev μ5 : Mth := (⟨"com/example/binwright/binwright/core/BinContents", "remove", "(I)V"⟩, prog_20_method_4_code, 3, none)
abbrev W5 := W tables_1 KT μ5
abbrev M5 := M tables_1 KT μ5
theorem pf5 : plainFor μ5.1 = true := by first | (refine plainFor_of_name ?_; simp [plainName, overriddenIn, x]; done) | decide +kernel
theorem e0 {rm : Room} {H : AHeap} {Q : Option Value → AHeap → Prop} {a0 : Int32} {a1 : Int32} (h : W0 rm 0 [.val (.int a0), .val (.int a1), .unset, .unset, .unset, .unset, .unset, .unset, .unset, .unset, .unset] [] H Q) : M0 rm [.int a0, .int a1] H Q := M.of pf0 rfl rfl h
theorem e0L {rm : Room} {H : AHeap} {Q : Option Value → AHeap → Prop} {L : List Slot} {as : List Value} (h : W0 rm 0 L [] H Q) (hl : ent as ++ List.replicate (11 - (ent as).length) .unset = L := by rfl) (hn : L.length = 11 := by rfl) : M0 rm as H Q := M.of pf0 hl hn h
theorem s0_0 {rm : Room} {S : List Value} {H : AHeap} {Q : Option Value → AHeap → Prop} {l0 l1 l2 l3 l4 l5 l6 l7 l8 l9 l10 : Slot}  (h : W0 rm 1 [l0, l1, l2, l3, l4, l5, l6, l7, l8, l9, l10] (.int 1 :: S) (H) Q) : W0 rm 0 [l0, l1, l2, l3, l4, l5, l6, l7, l8, l9, l10] (S) H Q := W.iconst' at_0 (by decide) h
theorem s0_1 {rm : Room} {S : List Value} {H : AHeap} {Q : Option Value → AHeap → Prop} {l1 l2 l3 l4 l5 l6 l7 l8 l9 l10 : Slot} {x : Int32} (h : W0 rm 2 [.val (.int x), l1, l2, l3, l4, l5, l6, l7, l8, l9, l10] (.int x :: S) (H) Q) : W0 rm 1 [.val (.int x), l1, l2, l3, l4, l5, l6, l7, l8, l9, l10] (S) H Q := W.iload_n at_1 rfl h
theorem s0_2 {rm : Room} {S : List Value} {H : AHeap} {Q : Option Value → AHeap → Prop} {l0 l1 l2 l3 l4 l5 l6 l7 l8 l9 l10 : Slot}  (h : W0 rm 3 [l0, l1, l2, l3, l4, l5, l6, l7, l8, l9, l10] (.int 1 :: S) (H) Q) : W0 rm 2 [l0, l1, l2, l3, l4, l5, l6, l7, l8, l9, l10] (S) H Q := W.iconst' at_2 (by decide) h
theorem s0_3 {rm : Room} {S : List Value} {H : AHeap} {Q : Option Value → AHeap → Prop} {l0 l1 l2 l3 l4 l5 l6 l7 l8 l9 l10 : Slot} {x y : Int32} (h : W0 rm 4 [l0, l1, l2, l3, l4, l5, l6, l7, l8, l9, l10] (.int (x &&& y) :: S) (H) Q) : W0 rm 3 [l0, l1, l2, l3, l4, l5, l6, l7, l8, l9, l10] (.int y :: .int x :: S) H Q := W.iand at_3 h
theorem s0_4 {rm : Room} {S : List Value} {H : AHeap} {Q : Option Value → AHeap → Prop} {l0 l1 l2 l3 l4 l5 l6 l7 l8 l9 l10 : Slot} {x y : Int32} (h : W0 rm 5 [l0, l1, l2, l3, l4, l5, l6, l7, l8, l9, l10] (.int (x + y) :: S) (H) Q) : W0 rm 4 [l0, l1, l2, l3, l4, l5, l6, l7, l8, l9, l10] (.int y :: .int x :: S) H Q := W.iadd at_4 h
theorem s0_5 {rm : Room} {S : List Value} {H : AHeap} {Q : Option Value → AHeap → Prop} {l0 l1 l2 l3 l4 l5 l6 l7 l8 l9 l10 : Slot} {x : Int32} (ho : one l2 = true) (h : W0 rm 6 [l0, l1, .val (.int x), l3, l4, l5, l6, l7, l8, l9, l10] (S) (H) Q) : W0 rm 5 [l0, l1, l2, l3, l4, l5, l6, l7, l8, l9, l10] (.int x :: S) H Q := W.istore_n at_5 rfl ho h
theorem s0_5w {rm : Room} {S : List Value} {H : AHeap} {Q : Option Value → AHeap → Prop} {l0 l1 l3 l4 l5 l6 l7 l8 l9 l10 : Slot} {w : Value} {x : Int32} (ho : w.category = 2) (h : W0 rm 6 [l0, l1, .val (.int x), .unset, l4, l5, l6, l7, l8, l9, l10] (S) (H) Q) : W0 rm 5 [l0, l1, .val w, l3, l4, l5, l6, l7, l8, l9, l10] (.int x :: S) H Q := W.istore_nW at_5 rfl ho (Nat.le_of_ble_eq_true rfl) h
theorem s0_5s {rm : Room} {S : List Value} {H : AHeap} {Q : Option Value → AHeap → Prop} {l0 l1 l3 l4 l5 l6 l7 l8 l9 l10 : Slot} {x : Int32} (h : W0 rm 6 [l0, .unset, .val (.int x), l3, l4, l5, l6, l7, l8, l9, l10] (S) (H) Q) : W0 rm 5 [l0, l1, .second, l3, l4, l5, l6, l7, l8, l9, l10] (.int x :: S) H Q := W.istore_nS at_5 rfl (by decide) h
theorem s0_6 {rm : Room} {S : List Value} {H : AHeap} {Q : Option Value → AHeap → Prop} {l0 l1 l2 l3 l4 l5 l6 l7 l8 l9 l10 : Slot}  (h : W0 rm 7 [l0, l1, l2, l3, l4, l5, l6, l7, l8, l9, l10] (.int 1 :: S) (H) Q) : W0 rm 6 [l0, l1, l2, l3, l4, l5, l6, l7, l8, l9, l10] (S) H Q := W.iconst' at_6 (by decide) h
theorem s0_7 {rm : Room} {S : List Value} {H : AHeap} {Q : Option Value → AHeap → Prop} {l1 l2 l3 l4 l5 l6 l7 l8 l9 l10 : Slot} {x : Int32} (h : W0 rm 8 [.val (.int x), l1, l2, l3, l4, l5, l6, l7, l8, l9, l10] (.int x :: S) (H) Q) : W0 rm 7 [.val (.int x), l1, l2, l3, l4, l5, l6, l7, l8, l9, l10] (S) H Q := W.iload_n at_7 rfl h
theorem s0_8 {rm : Room} {S : List Value} {H : AHeap} {Q : Option Value → AHeap → Prop} {l0 l1 l2 l3 l4 l5 l6 l7 l8 l9 l10 : Slot}  (h : W0 rm 9 [l0, l1, l2, l3, l4, l5, l6, l7, l8, l9, l10] (.int 1 :: S) (H) Q) : W0 rm 8 [l0, l1, l2, l3, l4, l5, l6, l7, l8, l9, l10] (S) H Q := W.iconst' at_8 (by decide) h
theorem s0_9 {rm : Room} {S : List Value} {H : AHeap} {Q : Option Value → AHeap → Prop} {l0 l1 l2 l3 l4 l5 l6 l7 l8 l9 l10 : Slot} {x y : Int32} (h : W0 rm 10 [l0, l1, l2, l3, l4, l5, l6, l7, l8, l9, l10] (.int (XT.ushr x y) :: S) (H) Q) : W0 rm 9 [l0, l1, l2, l3, l4, l5, l6, l7, l8, l9, l10] (.int y :: .int x :: S) H Q := W.iushr at_9 h
theorem s0_10 {rm : Room} {S : List Value} {H : AHeap} {Q : Option Value → AHeap → Prop} {l0 l1 l2 l3 l4 l5 l6 l7 l8 l9 l10 : Slot}  (h : W0 rm 11 [l0, l1, l2, l3, l4, l5, l6, l7, l8, l9, l10] (.int 1 :: S) (H) Q) : W0 rm 10 [l0, l1, l2, l3, l4, l5, l6, l7, l8, l9, l10] (S) H Q := W.iconst' at_10 (by decide) h
theorem s0_11 {rm : Room} {S : List Value} {H : AHeap} {Q : Option Value → AHeap → Prop} {l0 l1 l2 l3 l4 l5 l6 l7 l8 l9 l10 : Slot} {x y : Int32} (h : W0 rm 12 [l0, l1, l2, l3, l4, l5, l6, l7, l8, l9, l10] (.int (x &&& y) :: S) (H) Q) : W0 rm 11 [l0, l1, l2, l3, l4, l5, l6, l7, l8, l9, l10] (.int y :: .int x :: S) H Q := W.iand at_11 h
theorem s0_12 {rm : Room} {S : List Value} {H : AHeap} {Q : Option Value → AHeap → Prop} {l0 l1 l2 l3 l4 l5 l6 l7 l8 l9 l10 : Slot} {x y : Int32} (h : W0 rm 13 [l0, l1, l2, l3, l4, l5, l6, l7, l8, l9, l10] (.int (x + y) :: S) (H) Q) : W0 rm 12 [l0, l1, l2, l3, l4, l5, l6, l7, l8, l9, l10] (.int y :: .int x :: S) H Q := W.iadd at_12 h
theorem s0_13 {rm : Room} {S : List Value} {H : AHeap} {Q : Option Value → AHeap → Prop} {l0 l1 l2 l3 l4 l5 l6 l7 l8 l9 l10 : Slot} {x : Int32} (ho : one l3 = true) (h : W0 rm 14 [l0, l1, l2, .val (.int x), l4, l5, l6, l7, l8, l9, l10] (S) (H) Q) : W0 rm 13 [l0, l1, l2, l3, l4, l5, l6, l7, l8, l9, l10] (.int x :: S) H Q := W.istore_n at_13 rfl ho h
theorem s0_13w {rm : Room} {S : List Value} {H : AHeap} {Q : Option Value → AHeap → Prop} {l0 l1 l2 l4 l5 l6 l7 l8 l9 l10 : Slot} {w : Value} {x : Int32} (ho : w.category = 2) (h : W0 rm 14 [l0, l1, l2, .val (.int x), .unset, l5, l6, l7, l8, l9, l10] (S) (H) Q) : W0 rm 13 [l0, l1, l2, .val w, l4, l5, l6, l7, l8, l9, l10] (.int x :: S) H Q := W.istore_nW at_13 rfl ho (Nat.le_of_ble_eq_true rfl) h
theorem s0_13s {rm : Room} {S : List Value} {H : AHeap} {Q : Option Value → AHeap → Prop} {l0 l1 l2 l4 l5 l6 l7 l8 l9 l10 : Slot} {x : Int32} (h : W0 rm 14 [l0, l1, .unset, .val (.int x), l4, l5, l6, l7, l8, l9, l10] (S) (H) Q) : W0 rm 13 [l0, l1, l2, .second, l4, l5, l6, l7, l8, l9, l10] (.int x :: S) H Q := W.istore_nS at_13 rfl (by decide) h
theorem s0_14 {rm : Room} {S : List Value} {H : AHeap} {Q : Option Value → AHeap → Prop} {l1 l2 l3 l4 l5 l6 l7 l8 l9 l10 : Slot} {x : Int32} (h : W0 rm 15 [.val (.int x), l1, l2, l3, l4, l5, l6, l7, l8, l9, l10] (.int x :: S) (H) Q) : W0 rm 14 [.val (.int x), l1, l2, l3, l4, l5, l6, l7, l8, l9, l10] (S) H Q := W.iload_n at_14 rfl h
theorem s0_15 {rm : Room} {S : List Value} {H : AHeap} {Q : Option Value → AHeap → Prop} {l0 l1 l2 l3 l4 l5 l6 l7 l8 l9 l10 : Slot}  (h : W0 rm 16 [l0, l1, l2, l3, l4, l5, l6, l7, l8, l9, l10] (.int 2 :: S) (H) Q) : W0 rm 15 [l0, l1, l2, l3, l4, l5, l6, l7, l8, l9, l10] (S) H Q := W.iconst' at_15 (by decide) h
theorem s0_16 {rm : Room} {S : List Value} {H : AHeap} {Q : Option Value → AHeap → Prop} {l0 l1 l2 l3 l4 l5 l6 l7 l8 l9 l10 : Slot} {x y : Int32} (h : W0 rm 17 [l0, l1, l2, l3, l4, l5, l6, l7, l8, l9, l10] (.int (XT.ushr x y) :: S) (H) Q) : W0 rm 16 [l0, l1, l2, l3, l4, l5, l6, l7, l8, l9, l10] (.int y :: .int x :: S) H Q := W.iushr at_16 h
theorem s0_17 {rm : Room} {S : List Value} {H : AHeap} {Q : Option Value → AHeap → Prop} {l0 l1 l2 l3 l4 l5 l6 l7 l8 l9 l10 : Slot}  (h : W0 rm 18 [l0, l1, l2, l3, l4, l5, l6, l7, l8, l9, l10] (.int 1 :: S) (H) Q) : W0 rm 17 [l0, l1, l2, l3, l4, l5, l6, l7, l8, l9, l10] (S) H Q := W.iconst' at_17 (by decide) h
theorem s0_18 {rm : Room} {S : List Value} {H : AHeap} {Q : Option Value → AHeap → Prop} {l0 l1 l2 l3 l4 l5 l6 l7 l8 l9 l10 : Slot} {x y : Int32} (h : W0 rm 19 [l0, l1, l2, l3, l4, l5, l6, l7, l8, l9, l10] (.int (x &&& y) :: S) (H) Q) : W0 rm 18 [l0, l1, l2, l3, l4, l5, l6, l7, l8, l9, l10] (.int y :: .int x :: S) H Q := W.iand at_18 h
theorem s0_19 {rm : Room} {S : List Value} {H : AHeap} {Q : Option Value → AHeap → Prop} {l0 l1 l2 l3 l4 l5 l6 l7 l8 l9 l10 : Slot} {x : Int32} (h1 : x = 0 → W0 rm 26 [l0, l1, l2, l3, l4, l5, l6, l7, l8, l9, l10] S H Q) (h2 : ¬ x = 0 → W0 rm 22 [l0, l1, l2, l3, l4, l5, l6, l7, l8, l9, l10] S H Q) : W0 rm 19 [l0, l1, l2, l3, l4, l5, l6, l7, l8, l9, l10] (.int x :: S) H Q := W.ifc at_19 (by decide) (by decide) h1 h2
theorem s0_22 {rm : Room} {S : List Value} {H : AHeap} {Q : Option Value → AHeap → Prop} {l0 l1 l2 l3 l4 l5 l6 l7 l8 l9 l10 : Slot}  (h : W0 rm 23 [l0, l1, l2, l3, l4, l5, l6, l7, l8, l9, l10] (.int 1 :: S) (H) Q) : W0 rm 22 [l0, l1, l2, l3, l4, l5, l6, l7, l8, l9, l10] (S) H Q := W.iconst' at_22 (by decide) h
theorem s0_23 {rm : Room} {S : List Value} {H : AHeap} {Q : Option Value → AHeap → Prop} {l0 l1 l2 l3 l4 l5 l6 l7 l8 l9 l10 : Slot}  (h : W0 rm 27 [l0, l1, l2, l3, l4, l5, l6, l7, l8, l9, l10] (S) (H) Q) : W0 rm 23 [l0, l1, l2, l3, l4, l5, l6, l7, l8, l9, l10] (S) H Q := W.goto at_23 (by decide) (by decide) h
theorem s0_26 {rm : Room} {S : List Value} {H : AHeap} {Q : Option Value → AHeap → Prop} {l0 l1 l2 l3 l4 l5 l6 l7 l8 l9 l10 : Slot}  (h : W0 rm 27 [l0, l1, l2, l3, l4, l5, l6, l7, l8, l9, l10] (.int 0 :: S) (H) Q) : W0 rm 26 [l0, l1, l2, l3, l4, l5, l6, l7, l8, l9, l10] (S) H Q := W.iconst' at_26 (by decide) h
theorem s0_27 {rm : Room} {S : List Value} {H : AHeap} {Q : Option Value → AHeap → Prop} {l0 l1 l2 l3 l4 l5 l6 l7 l8 l9 l10 : Slot} {x : Int32} (ho : one l4 = true) (h : W0 rm 29 [l0, l1, l2, l3, .val (.int x), l5, l6, l7, l8, l9, l10] (S) (H) Q) : W0 rm 27 [l0, l1, l2, l3, l4, l5, l6, l7, l8, l9, l10] (.int x :: S) H Q := W.istore at_27 rfl ho h
theorem s0_27w {rm : Room} {S : List Value} {H : AHeap} {Q : Option Value → AHeap → Prop} {l0 l1 l2 l3 l5 l6 l7 l8 l9 l10 : Slot} {w : Value} {x : Int32} (ho : w.category = 2) (h : W0 rm 29 [l0, l1, l2, l3, .val (.int x), .unset, l6, l7, l8, l9, l10] (S) (H) Q) : W0 rm 27 [l0, l1, l2, l3, .val w, l5, l6, l7, l8, l9, l10] (.int x :: S) H Q := W.istoreW at_27 rfl ho (Nat.le_of_ble_eq_true rfl) h
theorem s0_27s {rm : Room} {S : List Value} {H : AHeap} {Q : Option Value → AHeap → Prop} {l0 l1 l2 l3 l5 l6 l7 l8 l9 l10 : Slot} {x : Int32} (h : W0 rm 29 [l0, l1, l2, .unset, .val (.int x), l5, l6, l7, l8, l9, l10] (S) (H) Q) : W0 rm 27 [l0, l1, l2, l3, .second, l5, l6, l7, l8, l9, l10] (.int x :: S) H Q := W.istoreS at_27 rfl (by decide) h
theorem s0_29 {rm : Room} {S : List Value} {H : AHeap} {Q : Option Value → AHeap → Prop} {l1 l2 l3 l4 l5 l6 l7 l8 l9 l10 : Slot} {x : Int32} (h : W0 rm 30 [.val (.int x), l1, l2, l3, l4, l5, l6, l7, l8, l9, l10] (.int x :: S) (H) Q) : W0 rm 29 [.val (.int x), l1, l2, l3, l4, l5, l6, l7, l8, l9, l10] (S) H Q := W.iload_n at_29 rfl h
theorem s0_30 {rm : Room} {S : List Value} {H : AHeap} {Q : Option Value → AHeap → Prop} {l0 l1 l2 l3 l4 l5 l6 l7 l8 l9 l10 : Slot}  (h : W0 rm 31 [l0, l1, l2, l3, l4, l5, l6, l7, l8, l9, l10] (.int 3 :: S) (H) Q) : W0 rm 30 [l0, l1, l2, l3, l4, l5, l6, l7, l8, l9, l10] (S) H Q := W.iconst' at_30 (by decide) h
theorem s0_31 {rm : Room} {S : List Value} {H : AHeap} {Q : Option Value → AHeap → Prop} {l0 l1 l2 l3 l4 l5 l6 l7 l8 l9 l10 : Slot} {x y : Int32} (h : W0 rm 32 [l0, l1, l2, l3, l4, l5, l6, l7, l8, l9, l10] (.int (XT.ushr x y) :: S) (H) Q) : W0 rm 31 [l0, l1, l2, l3, l4, l5, l6, l7, l8, l9, l10] (.int y :: .int x :: S) H Q := W.iushr at_31 h
theorem s0_32 {rm : Room} {S : List Value} {H : AHeap} {Q : Option Value → AHeap → Prop} {l0 l1 l2 l3 l4 l5 l6 l7 l8 l9 l10 : Slot}  (h : W0 rm 33 [l0, l1, l2, l3, l4, l5, l6, l7, l8, l9, l10] (.int 1 :: S) (H) Q) : W0 rm 32 [l0, l1, l2, l3, l4, l5, l6, l7, l8, l9, l10] (S) H Q := W.iconst' at_32 (by decide) h
theorem s0_33 {rm : Room} {S : List Value} {H : AHeap} {Q : Option Value → AHeap → Prop} {l0 l1 l2 l3 l4 l5 l6 l7 l8 l9 l10 : Slot} {x y : Int32} (h : W0 rm 34 [l0, l1, l2, l3, l4, l5, l6, l7, l8, l9, l10] (.int (x &&& y) :: S) (H) Q) : W0 rm 33 [l0, l1, l2, l3, l4, l5, l6, l7, l8, l9, l10] (.int y :: .int x :: S) H Q := W.iand at_33 h
theorem s0_34 {rm : Room} {S : List Value} {H : AHeap} {Q : Option Value → AHeap → Prop} {l0 l1 l2 l3 l4 l5 l6 l7 l8 l9 l10 : Slot} {x : Int32} (h1 : x = 0 → W0 rm 41 [l0, l1, l2, l3, l4, l5, l6, l7, l8, l9, l10] S H Q) (h2 : ¬ x = 0 → W0 rm 37 [l0, l1, l2, l3, l4, l5, l6, l7, l8, l9, l10] S H Q) : W0 rm 34 [l0, l1, l2, l3, l4, l5, l6, l7, l8, l9, l10] (.int x :: S) H Q := W.ifc at_34 (by decide) (by decide) h1 h2
theorem s0_37 {rm : Room} {S : List Value} {H : AHeap} {Q : Option Value → AHeap → Prop} {l0 l1 l2 l3 l4 l5 l6 l7 l8 l9 l10 : Slot}  (h : W0 rm 38 [l0, l1, l2, l3, l4, l5, l6, l7, l8, l9, l10] (.int 1 :: S) (H) Q) : W0 rm 37 [l0, l1, l2, l3, l4, l5, l6, l7, l8, l9, l10] (S) H Q := W.iconst' at_37 (by decide) h
theorem s0_38 {rm : Room} {S : List Value} {H : AHeap} {Q : Option Value → AHeap → Prop} {l0 l1 l2 l3 l4 l5 l6 l7 l8 l9 l10 : Slot}  (h : W0 rm 42 [l0, l1, l2, l3, l4, l5, l6, l7, l8, l9, l10] (S) (H) Q) : W0 rm 38 [l0, l1, l2, l3, l4, l5, l6, l7, l8, l9, l10] (S) H Q := W.goto at_38 (by decide) (by decide) h
theorem s0_41 {rm : Room} {S : List Value} {H : AHeap} {Q : Option Value → AHeap → Prop} {l0 l1 l2 l3 l4 l5 l6 l7 l8 l9 l10 : Slot}  (h : W0 rm 42 [l0, l1, l2, l3, l4, l5, l6, l7, l8, l9, l10] (.int 0 :: S) (H) Q) : W0 rm 41 [l0, l1, l2, l3, l4, l5, l6, l7, l8, l9, l10] (S) H Q := W.iconst' at_41 (by decide) h
theorem s0_42 {rm : Room} {S : List Value} {H : AHeap} {Q : Option Value → AHeap → Prop} {l0 l1 l2 l3 l4 l5 l6 l7 l8 l9 l10 : Slot} {x : Int32} (ho : one l5 = true) (h : W0 rm 44 [l0, l1, l2, l3, l4, .val (.int x), l6, l7, l8, l9, l10] (S) (H) Q) : W0 rm 42 [l0, l1, l2, l3, l4, l5, l6, l7, l8, l9, l10] (.int x :: S) H Q := W.istore at_42 rfl ho h
theorem s0_42w {rm : Room} {S : List Value} {H : AHeap} {Q : Option Value → AHeap → Prop} {l0 l1 l2 l3 l4 l6 l7 l8 l9 l10 : Slot} {w : Value} {x : Int32} (ho : w.category = 2) (h : W0 rm 44 [l0, l1, l2, l3, l4, .val (.int x), .unset, l7, l8, l9, l10] (S) (H) Q) : W0 rm 42 [l0, l1, l2, l3, l4, .val w, l6, l7, l8, l9, l10] (.int x :: S) H Q := W.istoreW at_42 rfl ho (Nat.le_of_ble_eq_true rfl) h
theorem s0_42s {rm : Room} {S : List Value} {H : AHeap} {Q : Option Value → AHeap → Prop} {l0 l1 l2 l3 l4 l6 l7 l8 l9 l10 : Slot} {x : Int32} (h : W0 rm 44 [l0, l1, l2, l3, .unset, .val (.int x), l6, l7, l8, l9, l10] (S) (H) Q) : W0 rm 42 [l0, l1, l2, l3, l4, .second, l6, l7, l8, l9, l10] (.int x :: S) H Q := W.istoreS at_42 rfl (by decide) h
theorem s0_44 {rm : Room} {S : List Value} {H : AHeap} {Q : Option Value → AHeap → Prop} {l1 l2 l3 l4 l5 l6 l7 l8 l9 l10 : Slot} {x : Int32} (h : W0 rm 45 [.val (.int x), l1, l2, l3, l4, l5, l6, l7, l8, l9, l10] (.int x :: S) (H) Q) : W0 rm 44 [.val (.int x), l1, l2, l3, l4, l5, l6, l7, l8, l9, l10] (S) H Q := W.iload_n at_44 rfl h
theorem s0_45 {rm : Room} {S : List Value} {H : AHeap} {Q : Option Value → AHeap → Prop} {l0 l1 l2 l3 l4 l5 l6 l7 l8 l9 l10 : Slot}  (h : W0 rm 46 [l0, l1, l2, l3, l4, l5, l6, l7, l8, l9, l10] (.int 4 :: S) (H) Q) : W0 rm 45 [l0, l1, l2, l3, l4, l5, l6, l7, l8, l9, l10] (S) H Q := W.iconst' at_45 (by decide) h
theorem s0_46 {rm : Room} {S : List Value} {H : AHeap} {Q : Option Value → AHeap → Prop} {l0 l1 l2 l3 l4 l5 l6 l7 l8 l9 l10 : Slot} {x y : Int32} (h : W0 rm 47 [l0, l1, l2, l3, l4, l5, l6, l7, l8, l9, l10] (.int (XT.ushr x y) :: S) (H) Q) : W0 rm 46 [l0, l1, l2, l3, l4, l5, l6, l7, l8, l9, l10] (.int y :: .int x :: S) H Q := W.iushr at_46 h
theorem s0_47 {rm : Room} {S : List Value} {H : AHeap} {Q : Option Value → AHeap → Prop} {l0 l1 l2 l3 l4 l5 l6 l7 l8 l9 l10 : Slot}  (h : W0 rm 48 [l0, l1, l2, l3, l4, l5, l6, l7, l8, l9, l10] (.int 1 :: S) (H) Q) : W0 rm 47 [l0, l1, l2, l3, l4, l5, l6, l7, l8, l9, l10] (S) H Q := W.iconst' at_47 (by decide) h
theorem s0_48 {rm : Room} {S : List Value} {H : AHeap} {Q : Option Value → AHeap → Prop} {l0 l1 l2 l3 l4 l5 l6 l7 l8 l9 l10 : Slot} {x y : Int32} (h : W0 rm 49 [l0, l1, l2, l3, l4, l5, l6, l7, l8, l9, l10] (.int (x &&& y) :: S) (H) Q) : W0 rm 48 [l0, l1, l2, l3, l4, l5, l6, l7, l8, l9, l10] (.int y :: .int x :: S) H Q := W.iand at_48 h
theorem s0_49 {rm : Room} {S : List Value} {H : AHeap} {Q : Option Value → AHeap → Prop} {l0 l1 l2 l3 l4 l5 l6 l7 l8 l9 l10 : Slot} {x : Int32} (h1 : x = 0 → W0 rm 56 [l0, l1, l2, l3, l4, l5, l6, l7, l8, l9, l10] S H Q) (h2 : ¬ x = 0 → W0 rm 52 [l0, l1, l2, l3, l4, l5, l6, l7, l8, l9, l10] S H Q) : W0 rm 49 [l0, l1, l2, l3, l4, l5, l6, l7, l8, l9, l10] (.int x :: S) H Q := W.ifc at_49 (by decide) (by decide) h1 h2
theorem s0_52 {rm : Room} {S : List Value} {H : AHeap} {Q : Option Value → AHeap → Prop} {l0 l1 l2 l3 l4 l5 l6 l7 l8 l9 l10 : Slot}  (h : W0 rm 53 [l0, l1, l2, l3, l4, l5, l6, l7, l8, l9, l10] (.int 1 :: S) (H) Q) : W0 rm 52 [l0, l1, l2, l3, l4, l5, l6, l7, l8, l9, l10] (S) H Q := W.iconst' at_52 (by decide) h
theorem s0_53 {rm : Room} {S : List Value} {H : AHeap} {Q : Option Value → AHeap → Prop} {l0 l1 l2 l3 l4 l5 l6 l7 l8 l9 l10 : Slot}  (h : W0 rm 57 [l0, l1, l2, l3, l4, l5, l6, l7, l8, l9, l10] (S) (H) Q) : W0 rm 53 [l0, l1, l2, l3, l4, l5, l6, l7, l8, l9, l10] (S) H Q := W.goto at_53 (by decide) (by decide) h
theorem s0_56 {rm : Room} {S : List Value} {H : AHeap} {Q : Option Value → AHeap → Prop} {l0 l1 l2 l3 l4 l5 l6 l7 l8 l9 l10 : Slot}  (h : W0 rm 57 [l0, l1, l2, l3, l4, l5, l6, l7, l8, l9, l10] (.int 0 :: S) (H) Q) : W0 rm 56 [l0, l1, l2, l3, l4, l5, l6, l7, l8, l9, l10] (S) H Q := W.iconst' at_56 (by decide) h
theorem s0_57 {rm : Room} {S : List Value} {H : AHeap} {Q : Option Value → AHeap → Prop} {l0 l1 l2 l3 l4 l5 l6 l7 l8 l9 l10 : Slot} {x : Int32} (ho : one l6 = true) (h : W0 rm 59 [l0, l1, l2, l3, l4, l5, .val (.int x), l7, l8, l9, l10] (S) (H) Q) : W0 rm 57 [l0, l1, l2, l3, l4, l5, l6, l7, l8, l9, l10] (.int x :: S) H Q := W.istore at_57 rfl ho h
theorem s0_57w {rm : Room} {S : List Value} {H : AHeap} {Q : Option Value → AHeap → Prop} {l0 l1 l2 l3 l4 l5 l7 l8 l9 l10 : Slot} {w : Value} {x : Int32} (ho : w.category = 2) (h : W0 rm 59 [l0, l1, l2, l3, l4, l5, .val (.int x), .unset, l8, l9, l10] (S) (H) Q) : W0 rm 57 [l0, l1, l2, l3, l4, l5, .val w, l7, l8, l9, l10] (.int x :: S) H Q := W.istoreW at_57 rfl ho (Nat.le_of_ble_eq_true rfl) h
theorem s0_57s {rm : Room} {S : List Value} {H : AHeap} {Q : Option Value → AHeap → Prop} {l0 l1 l2 l3 l4 l5 l7 l8 l9 l10 : Slot} {x : Int32} (h : W0 rm 59 [l0, l1, l2, l3, l4, .unset, .val (.int x), l7, l8, l9, l10] (S) (H) Q) : W0 rm 57 [l0, l1, l2, l3, l4, l5, .second, l7, l8, l9, l10] (.int x :: S) H Q := W.istoreS at_57 rfl (by decide) h
theorem s0_59 {rm : Room} {S : List Value} {H : AHeap} {Q : Option Value → AHeap → Prop} {l0 l1 l2 l3 l4 l6 l7 l8 l9 l10 : Slot} {x : Int32} (h : W0 rm 61 [l0, l1, l2, l3, l4, .val (.int x), l6, l7, l8, l9, l10] (.int x :: S) (H) Q) : W0 rm 59 [l0, l1, l2, l3, l4, .val (.int x), l6, l7, l8, l9, l10] (S) H Q := W.iload at_59 rfl h
theorem s0_61 {rm : Room} {S : List Value} {H : AHeap} {Q : Option Value → AHeap → Prop} {l0 l1 l2 l3 l4 l5 l6 l7 l8 l9 l10 : Slot} {x : Int32} (h1 : x = 0 → W0 rm 76 [l0, l1, l2, l3, l4, l5, l6, l7, l8, l9, l10] S H Q) (h2 : ¬ x = 0 → W0 rm 64 [l0, l1, l2, l3, l4, l5, l6, l7, l8, l9, l10] S H Q) : W0 rm 61 [l0, l1, l2, l3, l4, l5, l6, l7, l8, l9, l10] (.int x :: S) H Q := W.ifc at_61 (by decide) (by decide) h1 h2
theorem s0_64 {rm : Room} {S : List Value} {H : AHeap} {Q : Option Value → AHeap → Prop} {l1 l2 l3 l4 l5 l6 l7 l8 l9 l10 : Slot} {x : Int32} (h : W0 rm 65 [.val (.int x), l1, l2, l3, l4, l5, l6, l7, l8, l9, l10] (.int x :: S) (H) Q) : W0 rm 64 [.val (.int x), l1, l2, l3, l4, l5, l6, l7, l8, l9, l10] (S) H Q := W.iload_n at_64 rfl h
theorem s0_65 {rm : Room} {S : List Value} {H : AHeap} {Q : Option Value → AHeap → Prop} {l0 l1 l2 l3 l4 l5 l6 l7 l8 l9 l10 : Slot}  (h : W0 rm 66 [l0, l1, l2, l3, l4, l5, l6, l7, l8, l9, l10] (.int 5 :: S) (H) Q) : W0 rm 65 [l0, l1, l2, l3, l4, l5, l6, l7, l8, l9, l10] (S) H Q := W.iconst' at_65 (by decide) h
theorem s0_66 {rm : Room} {S : List Value} {H : AHeap} {Q : Option Value → AHeap → Prop} {l0 l1 l2 l3 l4 l5 l6 l7 l8 l9 l10 : Slot} {x y : Int32} (h : W0 rm 67 [l0, l1, l2, l3, l4, l5, l6, l7, l8, l9, l10] (.int (XT.ushr x y) :: S) (H) Q) : W0 rm 66 [l0, l1, l2, l3, l4, l5, l6, l7, l8, l9, l10] (.int y :: .int x :: S) H Q := W.iushr at_66 h
theorem s0_67 {rm : Room} {S : List Value} {H : AHeap} {Q : Option Value → AHeap → Prop} {l0 l1 l2 l3 l4 l5 l6 l7 l8 l9 l10 : Slot}  (h : W0 rm 68 [l0, l1, l2, l3, l4, l5, l6, l7, l8, l9, l10] (.int 1 :: S) (H) Q) : W0 rm 67 [l0, l1, l2, l3, l4, l5, l6, l7, l8, l9, l10] (S) H Q := W.iconst' at_67 (by decide) h
theorem s0_68 {rm : Room} {S : List Value} {H : AHeap} {Q : Option Value → AHeap → Prop} {l0 l1 l2 l3 l4 l5 l6 l7 l8 l9 l10 : Slot} {x y : Int32} (h : W0 rm 69 [l0, l1, l2, l3, l4, l5, l6, l7, l8, l9, l10] (.int (x &&& y) :: S) (H) Q) : W0 rm 68 [l0, l1, l2, l3, l4, l5, l6, l7, l8, l9, l10] (.int y :: .int x :: S) H Q := W.iand at_68 h
theorem s0_69 {rm : Room} {S : List Value} {H : AHeap} {Q : Option Value → AHeap → Prop} {l0 l1 l2 l3 l4 l5 l6 l7 l8 l9 l10 : Slot} {x : Int32} (h1 : x = 0 → W0 rm 76 [l0, l1, l2, l3, l4, l5, l6, l7, l8, l9, l10] S H Q) (h2 : ¬ x = 0 → W0 rm 72 [l0, l1, l2, l3, l4, l5, l6, l7, l8, l9, l10] S H Q) : W0 rm 69 [l0, l1, l2, l3, l4, l5, l6, l7, l8, l9, l10] (.int x :: S) H Q := W.ifc at_69 (by decide) (by decide) h1 h2
theorem s0_72 {rm : Room} {S : List Value} {H : AHeap} {Q : Option Value → AHeap → Prop} {l0 l1 l2 l3 l4 l5 l6 l7 l8 l9 l10 : Slot}  (h : W0 rm 73 [l0, l1, l2, l3, l4, l5, l6, l7, l8, l9, l10] (.int 1 :: S) (H) Q) : W0 rm 72 [l0, l1, l2, l3, l4, l5, l6, l7, l8, l9, l10] (S) H Q := W.iconst' at_72 (by decide) h
theorem s0_73 {rm : Room} {S : List Value} {H : AHeap} {Q : Option Value → AHeap → Prop} {l0 l1 l2 l3 l4 l5 l6 l7 l8 l9 l10 : Slot}  (h : W0 rm 77 [l0, l1, l2, l3, l4, l5, l6, l7, l8, l9, l10] (S) (H) Q) : W0 rm 73 [l0, l1, l2, l3, l4, l5, l6, l7, l8, l9, l10] (S) H Q := W.goto at_73 (by decide) (by decide) h
theorem s0_76 {rm : Room} {S : List Value} {H : AHeap} {Q : Option Value → AHeap → Prop} {l0 l1 l2 l3 l4 l5 l6 l7 l8 l9 l10 : Slot}  (h : W0 rm 77 [l0, l1, l2, l3, l4, l5, l6, l7, l8, l9, l10] (.int 0 :: S) (H) Q) : W0 rm 76 [l0, l1, l2, l3, l4, l5, l6, l7, l8, l9, l10] (S) H Q := W.iconst' at_76 (by decide) h
theorem s0_77 {rm : Room} {S : List Value} {H : AHeap} {Q : Option Value → AHeap → Prop} {l0 l1 l2 l3 l4 l5 l6 l7 l8 l9 l10 : Slot} {x : Int32} (ho : one l7 = true) (h : W0 rm 79 [l0, l1, l2, l3, l4, l5, l6, .val (.int x), l8, l9, l10] (S) (H) Q) : W0 rm 77 [l0, l1, l2, l3, l4, l5, l6, l7, l8, l9, l10] (.int x :: S) H Q := W.istore at_77 rfl ho h
theorem s0_77w {rm : Room} {S : List Value} {H : AHeap} {Q : Option Value → AHeap → Prop} {l0 l1 l2 l3 l4 l5 l6 l8 l9 l10 : Slot} {w : Value} {x : Int32} (ho : w.category = 2) (h : W0 rm 79 [l0, l1, l2, l3, l4, l5, l6, .val (.int x), .unset, l9, l10] (S) (H) Q) : W0 rm 77 [l0, l1, l2, l3, l4, l5, l6, .val w, l8, l9, l10] (.int x :: S) H Q := W.istoreW at_77 rfl ho (Nat.le_of_ble_eq_true rfl) h
theorem s0_77s {rm : Room} {S : List Value} {H : AHeap} {Q : Option Value → AHeap → Prop} {l0 l1 l2 l3 l4 l5 l6 l8 l9 l10 : Slot} {x : Int32} (h : W0 rm 79 [l0, l1, l2, l3, l4, l5, .unset, .val (.int x), l8, l9, l10] (S) (H) Q) : W0 rm 77 [l0, l1, l2, l3, l4, l5, l6, .second, l8, l9, l10] (.int x :: S) H Q := W.istoreS at_77 rfl (by decide) h
theorem s0_79 {rm : Room} {S : List Value} {H : AHeap} {Q : Option Value → AHeap → Prop} {l0 l1 l2 l3 l4 l5 l6 l7 l8 l9 l10 : Slot} (i : Nat) (hi : H.length = i) (hr : nok rm 5 = true) (h : W0 ⟨rm.frames, rm.cells - 1, rm.slots - 5, rm.locals⟩ 82 [l0, l1, l2, l3, l4, l5, l6, l7, l8, l9, l10] (.ref i :: S) (H ++ [.inl (0, [.null, .null, .null, .null, .null])]) Q) : W0 rm 79 [l0, l1, l2, l3, l4, l5, l6, l7, l8, l9, l10] (S) H Q := W.new (c := 0) kt at_79 (List.mem_of_getElem? (i := 0) rfl) (List.mem_of_getElem? (i := 2) rfl) rfl hi hr h
theorem s0_82 {rm : Room} {S : List Value} {H : AHeap} {Q : Option Value → AHeap → Prop} {l0 l1 l2 l3 l4 l5 l6 l7 l8 l9 l10 : Slot} {v : Value} (hc : v.category = 1) (h : W0 rm 83 [l0, l1, l2, l3, l4, l5, l6, l7, l8, l9, l10] (v :: v :: S) (H) Q) : W0 rm 82 [l0, l1, l2, l3, l4, l5, l6, l7, l8, l9, l10] (v :: S) H Q := W.dup at_82 hc h
theorem s0_83 {rm : Room} {S : List Value} {H : AHeap} {Q : Option Value → AHeap → Prop} {l0 l1 l2 l3 l4 l5 l6 l7 l8 l9 l10 : Slot}  (h : W0 rm 84 [l0, l1, l2, l3, l4, l5, l6, l7, l8, l9, l10] (.int 3 :: S) (H) Q) : W0 rm 83 [l0, l1, l2, l3, l4, l5, l6, l7, l8, l9, l10] (S) H Q := W.iconst' at_83 (by decide) h
theorem s0_84 {rm : Room} {S : List Value} {H : AHeap} {Q : Option Value → AHeap → Prop} {l0 l2 l3 l4 l5 l6 l7 l8 l9 l10 : Slot} {x : Int32} (h : W0 rm 85 [l0, .val (.int x), l2, l3, l4, l5, l6, l7, l8, l9, l10] (.int x :: S) (H) Q) : W0 rm 84 [l0, .val (.int x), l2, l3, l4, l5, l6, l7, l8, l9, l10] (S) H Q := W.iload_n at_84 rfl h
theorem s0_85 {rm : Room} {S : List Value} {H : AHeap} {Q : Option Value → AHeap → Prop} {l0 l1 l2 l3 l4 l5 l6 l7 l8 l9 l10 : Slot}  (h : W0 rm 87 [l0, l1, l2, l3, l4, l5, l6, l7, l8, l9, l10] (.int 15 :: S) (H) Q) : W0 rm 85 [l0, l1, l2, l3, l4, l5, l6, l7, l8, l9, l10] (S) H Q := W.bipush' at_85 (by decide) h
theorem s0_87 {rm : Room} {S : List Value} {H : AHeap} {Q : Option Value → AHeap → Prop} {l0 l1 l2 l3 l4 l5 l6 l7 l8 l9 l10 : Slot} {x y : Int32} (h : W0 rm 88 [l0, l1, l2, l3, l4, l5, l6, l7, l8, l9, l10] (.int (x &&& y) :: S) (H) Q) : W0 rm 87 [l0, l1, l2, l3, l4, l5, l6, l7, l8, l9, l10] (.int y :: .int x :: S) H Q := W.iand at_87 h
theorem s0_88 {rm : Room} {S : List Value} {H : AHeap} {Q : Option Value → AHeap → Prop} {l0 l1 l2 l3 l4 l5 l6 l7 l8 l9 l10 : Slot} {x y : Int32} (h : W0 rm 89 [l0, l1, l2, l3, l4, l5, l6, l7, l8, l9, l10] (.int (x + y) :: S) (H) Q) : W0 rm 88 [l0, l1, l2, l3, l4, l5, l6, l7, l8, l9, l10] (.int y :: .int x :: S) H Q := W.iadd at_88 h
theorem s0_89 {rm : Room} {S : List Value} {H : AHeap} {Q : Option Value → AHeap → Prop} {l0 l1 l2 l3 l4 l5 l6 l7 l8 l9 l10 : Slot} {rm' : Room} {H' : AHeap} {i : Nat} {a0 : Int32}  (hM : M1 rm' [.ref i, .int a0] H (Is none H')) (hr : rok rm rm' 2 S = true) (h : W0 (less rm rm') 92 [l0, l1, l2, l3, l4, l5, l6, l7, l8, l9, l10] (S) H' Q) : W0 rm 89 [l0, l1, l2, l3, l4, l5, l6, l7, l8, l9, l10] (.int a0 :: .ref i :: S) H Q := W.callI (S := S) (as := [.int a0]) (rm' := rm') at_89 rfl rfl (List.mem_of_getElem? (i := 3) rfl) (List.mem_of_getElem? (i := 4) rfl) (List.mem_of_getElem? (i := 2) rfl) (List.mem_of_getElem? (i := 5) rfl) (by decide) pd1 rfl rfl hM hr (fun _ _ q => by obtain ⟨rfl, rfl⟩ := q; exact h)
theorem s0_89q {rm : Room} {S : List Value} {H : AHeap} {Q : Option Value → AHeap → Prop} {l0 l1 l2 l3 l4 l5 l6 l7 l8 l9 l10 : Slot} {rm' : Room} {Q' : Option Value → AHeap → Prop} {i : Nat} {a0 : Value} (hM : M1 rm' [.ref i, a0] H Q') (hr : rok rm rm' 2 S = true) (h : ∀ v H', Q' v H' → W0 (less rm rm') 92 [l0, l1, l2, l3, l4, l5, l6, l7, l8, l9, l10] (v.toList ++ S) H' Q) : W0 rm 89 [l0, l1, l2, l3, l4, l5, l6, l7, l8, l9, l10] (a0 :: .ref i :: S) H Q := W.callI (S := S) (as := [a0]) (rm' := rm') at_89 rfl rfl (List.mem_of_getElem? (i := 3) rfl) (List.mem_of_getElem? (i := 4) rfl) (List.mem_of_getElem? (i := 2) rfl) (List.mem_of_getElem? (i := 5) rfl) (by decide) pd1 rfl rfl hM hr h
theorem s0_92 {rm : Room} {S : List Value} {H : AHeap} {Q : Option Value → AHeap → Prop} {l0 l1 l2 l3 l4 l5 l6 l7 l8 l9 l10 : Slot} {i : Nat} (ho : one l8 = true) (h : W0 rm 94 [l0, l1, l2, l3, l4, l5, l6, l7, .val (.ref i), l9, l10] (S) (H) Q) : W0 rm 92 [l0, l1, l2, l3, l4, l5, l6, l7, l8, l9, l10] (.ref i :: S) H Q := W.astore at_92 rfl ho rfl h
theorem s0_94 {rm : Room} {S : List Value} {H : AHeap} {Q : Option Value → AHeap → Prop} {l0 l1 l2 l3 l4 l5 l6 l7 l9 l10 : Slot} {i : Nat} (h : W0 rm 96 [l0, l1, l2, l3, l4, l5, l6, l7, .val (.ref i), l9, l10] (.ref i :: S) (H) Q) : W0 rm 94 [l0, l1, l2, l3, l4, l5, l6, l7, .val (.ref i), l9, l10] (S) H Q := W.aload at_94 rfl rfl h
theorem s0_94n {rm : Room} {S : List Value} {H : AHeap} {Q : Option Value → AHeap → Prop} {l0 l1 l2 l3 l4 l5 l6 l7 l9 l10 : Slot}  (h : W0 rm 96 [l0, l1, l2, l3, l4, l5, l6, l7, .val .null, l9, l10] (.null :: S) (H) Q) : W0 rm 94 [l0, l1, l2, l3, l4, l5, l6, l7, .val .null, l9, l10] (S) H Q := W.aload at_94 rfl rfl h
theorem s0_96 {rm : Room} {S : List Value} {H : AHeap} {Q : Option Value → AHeap → Prop} {l0 l1 l2 l3 l4 l5 l6 l7 l8 l9 l10 : Slot}  (h : W0 rm 97 [l0, l1, l2, l3, l4, l5, l6, l7, l8, l9, l10] (.int 3 :: S) (H) Q) : W0 rm 96 [l0, l1, l2, l3, l4, l5, l6, l7, l8, l9, l10] (S) H Q := W.iconst' at_96 (by decide) h
theorem s0_97 {rm : Room} {S : List Value} {H : AHeap} {Q : Option Value → AHeap → Prop} {l0 l1 l2 l3 l4 l5 l6 l7 l8 l9 l10 : Slot}  (h : W0 rm 98 [l0, l1, l2, l3, l4, l5, l6, l7, l8, l9, l10] (.int 1 :: S) (H) Q) : W0 rm 97 [l0, l1, l2, l3, l4, l5, l6, l7, l8, l9, l10] (S) H Q := W.iconst' at_97 (by decide) h
theorem s0_98 {rm : Room} {S : List Value} {H : AHeap} {Q : Option Value → AHeap → Prop} {l0 l1 l2 l3 l4 l5 l6 l7 l8 l9 l10 : Slot} {rm' : Room} {H' : AHeap} {i : Nat} {vs : List Value} {a0 : Int32} {a1 : Int32}  (hH : H[i]? = some (.inl (0, vs))) (hM : M2 rm' [.ref i, .int a0, .int a1] H (Is none H')) (hr : rok rm rm' 3 S = true) (h : W0 (less rm rm') 101 [l0, l1, l2, l3, l4, l5, l6, l7, l8, l9, l10] (S) H' Q) : W0 rm 98 [l0, l1, l2, l3, l4, l5, l6, l7, l8, l9, l10] (.int a1 :: .int a0 :: .ref i :: S) H Q := W.callV (c := 0) (S := S) (as := [.int a0, .int a1]) (rm' := rm') at_98 (List.mem_of_getElem? (i := 20) rfl) (List.mem_of_getElem? (i := 21) rfl) (List.mem_of_getElem? (i := 23) rfl) (Or.inl rfl) kt (List.mem_of_getElem? (i := 22) rfl) (List.mem_of_getElem? (i := 2) rfl) (List.mem_of_getElem? (i := 24) rfl) (by decide) rfl pd2 rfl rfl hH hM hr (fun _ _ q => by obtain ⟨rfl, rfl⟩ := q; exact h)
theorem s0_98q {rm : Room} {S : List Value} {H : AHeap} {Q : Option Value → AHeap → Prop} {l0 l1 l2 l3 l4 l5 l6 l7 l8 l9 l10 : Slot} {rm' : Room} {Q' : Option Value → AHeap → Prop} {i : Nat} {vs : List Value} {a0 a1 : Value} (hH : H[i]? = some (.inl (0, vs))) (hM : M2 rm' [.ref i, a0, a1] H Q') (hr : rok rm rm' 3 S = true) (h : ∀ v H', Q' v H' → W0 (less rm rm') 101 [l0, l1, l2, l3, l4, l5, l6, l7, l8, l9, l10] (v.toList ++ S) H' Q) : W0 rm 98 [l0, l1, l2, l3, l4, l5, l6, l7, l8, l9, l10] (a1 :: a0 :: .ref i :: S) H Q := W.callV (c := 0) (S := S) (as := [a0, a1]) (rm' := rm') at_98 (List.mem_of_getElem? (i := 20) rfl) (List.mem_of_getElem? (i := 21) rfl) (List.mem_of_getElem? (i := 23) rfl) (Or.inl rfl) kt (List.mem_of_getElem? (i := 22) rfl) (List.mem_of_getElem? (i := 2) rfl) (List.mem_of_getElem? (i := 24) rfl) (by decide) rfl pd2 rfl rfl hH hM hr h
theorem s0_101 {rm : Room} {S : List Value} {H : AHeap} {Q : Option Value → AHeap → Prop} {l0 l1 l2 l3 l4 l5 l6 l7 l9 l10 : Slot} {i : Nat} (h : W0 rm 103 [l0, l1, l2, l3, l4, l5, l6, l7, .val (.ref i), l9, l10] (.ref i :: S) (H) Q) : W0 rm 101 [l0, l1, l2, l3, l4, l5, l6, l7, .val (.ref i), l9, l10] (S) H Q := W.aload at_101 rfl rfl h
theorem s0_101n {rm : Room} {S : List Value} {H : AHeap} {Q : Option Value → AHeap → Prop} {l0 l1 l2 l3 l4 l5 l6 l7 l9 l10 : Slot}  (h : W0 rm 103 [l0, l1, l2, l3, l4, l5, l6, l7, .val .null, l9, l10] (.null :: S) (H) Q) : W0 rm 101 [l0, l1, l2, l3, l4, l5, l6, l7, .val .null, l9, l10] (S) H Q := W.aload at_101 rfl rfl h
theorem s0_103 {rm : Room} {S : List Value} {H : AHeap} {Q : Option Value → AHeap → Prop} {l0 l1 l2 l3 l4 l5 l6 l7 l8 l9 l10 : Slot}  (h : W0 rm 104 [l0, l1, l2, l3, l4, l5, l6, l7, l8, l9, l10] (.int 1 :: S) (H) Q) : W0 rm 103 [l0, l1, l2, l3, l4, l5, l6, l7, l8, l9, l10] (S) H Q := W.iconst' at_103 (by decide) h
theorem s0_104 {rm : Room} {S : List Value} {H : AHeap} {Q : Option Value → AHeap → Prop} {l0 l1 l3 l4 l5 l6 l7 l8 l9 l10 : Slot} {x : Int32} (h : W0 rm 105 [l0, l1, .val (.int x), l3, l4, l5, l6, l7, l8, l9, l10] (.int x :: S) (H) Q) : W0 rm 104 [l0, l1, .val (.int x), l3, l4, l5, l6, l7, l8, l9, l10] (S) H Q := W.iload_n at_104 rfl h
theorem s0_105 {rm : Room} {S : List Value} {H : AHeap} {Q : Option Value → AHeap → Prop} {l0 l1 l2 l3 l4 l5 l6 l7 l8 l9 l10 : Slot} {rm' : Room} {H' : AHeap} {i : Nat} {vs : List Value} {a0 : Int32} {a1 : Int32}  (hH : H[i]? = some (.inl (0, vs))) (hM : M2 rm' [.ref i, .int a0, .int a1] H (Is none H')) (hr : rok rm rm' 3 S = true) (h : W0 (less rm rm') 108 [l0, l1, l2, l3, l4, l5, l6, l7, l8, l9, l10] (S) H' Q) : W0 rm 105 [l0, l1, l2, l3, l4, l5, l6, l7, l8, l9, l10] (.int a1 :: .int a0 :: .ref i :: S) H Q := W.callV (c := 0) (S := S) (as := [.int a0, .int a1]) (rm' := rm') at_105 (List.mem_of_getElem? (i := 20) rfl) (List.mem_of_getElem? (i := 21) rfl) (List.mem_of_getElem? (i := 23) rfl) (Or.inl rfl) kt (List.mem_of_getElem? (i := 22) rfl) (List.mem_of_getElem? (i := 2) rfl) (List.mem_of_getElem? (i := 24) rfl) (by decide) rfl pd2 rfl rfl hH hM hr (fun _ _ q => by obtain ⟨rfl, rfl⟩ := q; exact h)
theorem s0_105q {rm : Room} {S : List Value} {H : AHeap} {Q : Option Value → AHeap → Prop} {l0 l1 l2 l3 l4 l5 l6 l7 l8 l9 l10 : Slot} {rm' : Room} {Q' : Option Value → AHeap → Prop} {i : Nat} {vs : List Value} {a0 a1 : Value} (hH : H[i]? = some (.inl (0, vs))) (hM : M2 rm' [.ref i, a0, a1] H Q') (hr : rok rm rm' 3 S = true) (h : ∀ v H', Q' v H' → W0 (less rm rm') 108 [l0, l1, l2, l3, l4, l5, l6, l7, l8, l9, l10] (v.toList ++ S) H' Q) : W0 rm 105 [l0, l1, l2, l3, l4, l5, l6, l7, l8, l9, l10] (a1 :: a0 :: .ref i :: S) H Q := W.callV (c := 0) (S := S) (as := [a0, a1]) (rm' := rm') at_105 (List.mem_of_getElem? (i := 20) rfl) (List.mem_of_getElem? (i := 21) rfl) (List.mem_of_getElem? (i := 23) rfl) (Or.inl rfl) kt (List.mem_of_getElem? (i := 22) rfl) (List.mem_of_getElem? (i := 2) rfl) (List.mem_of_getElem? (i := 24) rfl) (by decide) rfl pd2 rfl rfl hH hM hr h
theorem s0_108 {rm : Room} {S : List Value} {H : AHeap} {Q : Option Value → AHeap → Prop} {l0 l1 l2 l3 l4 l5 l6 l7 l9 l10 : Slot} {i : Nat} (h : W0 rm 110 [l0, l1, l2, l3, l4, l5, l6, l7, .val (.ref i), l9, l10] (.ref i :: S) (H) Q) : W0 rm 108 [l0, l1, l2, l3, l4, l5, l6, l7, .val (.ref i), l9, l10] (S) H Q := W.aload at_108 rfl rfl h
theorem s0_108n {rm : Room} {S : List Value} {H : AHeap} {Q : Option Value → AHeap → Prop} {l0 l1 l2 l3 l4 l5 l6 l7 l9 l10 : Slot}  (h : W0 rm 110 [l0, l1, l2, l3, l4, l5, l6, l7, .val .null, l9, l10] (.null :: S) (H) Q) : W0 rm 108 [l0, l1, l2, l3, l4, l5, l6, l7, .val .null, l9, l10] (S) H Q := W.aload at_108 rfl rfl h
theorem s0_110 {rm : Room} {S : List Value} {H : AHeap} {Q : Option Value → AHeap → Prop} {l0 l1 l2 l3 l4 l5 l6 l7 l8 l9 l10 : Slot}  (h : W0 rm 111 [l0, l1, l2, l3, l4, l5, l6, l7, l8, l9, l10] (.int 2 :: S) (H) Q) : W0 rm 110 [l0, l1, l2, l3, l4, l5, l6, l7, l8, l9, l10] (S) H Q := W.iconst' at_110 (by decide) h
theorem s0_111 {rm : Room} {S : List Value} {H : AHeap} {Q : Option Value → AHeap → Prop} {l0 l1 l2 l4 l5 l6 l7 l8 l9 l10 : Slot} {x : Int32} (h : W0 rm 112 [l0, l1, l2, .val (.int x), l4, l5, l6, l7, l8, l9, l10] (.int x :: S) (H) Q) : W0 rm 111 [l0, l1, l2, .val (.int x), l4, l5, l6, l7, l8, l9, l10] (S) H Q := W.iload_n at_111 rfl h
theorem s0_112 {rm : Room} {S : List Value} {H : AHeap} {Q : Option Value → AHeap → Prop} {l0 l1 l2 l3 l4 l5 l6 l7 l8 l9 l10 : Slot} {rm' : Room} {H' : AHeap} {i : Nat} {vs : List Value} {a0 : Int32} {a1 : Int32}  (hH : H[i]? = some (.inl (0, vs))) (hM : M2 rm' [.ref i, .int a0, .int a1] H (Is none H')) (hr : rok rm rm' 3 S = true) (h : W0 (less rm rm') 115 [l0, l1, l2, l3, l4, l5, l6, l7, l8, l9, l10] (S) H' Q) : W0 rm 112 [l0, l1, l2, l3, l4, l5, l6, l7, l8, l9, l10] (.int a1 :: .int a0 :: .ref i :: S) H Q := W.callV (c := 0) (S := S) (as := [.int a0, .int a1]) (rm' := rm') at_112 (List.mem_of_getElem? (i := 20) rfl) (List.mem_of_getElem? (i := 21) rfl) (List.mem_of_getElem? (i := 23) rfl) (Or.inl rfl) kt (List.mem_of_getElem? (i := 22) rfl) (List.mem_of_getElem? (i := 2) rfl) (List.mem_of_getElem? (i := 24) rfl) (by decide) rfl pd2 rfl rfl hH hM hr (fun _ _ q => by obtain ⟨rfl, rfl⟩ := q; exact h)
theorem s0_112q {rm : Room} {S : List Value} {H : AHeap} {Q : Option Value → AHeap → Prop} {l0 l1 l2 l3 l4 l5 l6 l7 l8 l9 l10 : Slot} {rm' : Room} {Q' : Option Value → AHeap → Prop} {i : Nat} {vs : List Value} {a0 a1 : Value} (hH : H[i]? = some (.inl (0, vs))) (hM : M2 rm' [.ref i, a0, a1] H Q') (hr : rok rm rm' 3 S = true) (h : ∀ v H', Q' v H' → W0 (less rm rm') 115 [l0, l1, l2, l3, l4, l5, l6, l7, l8, l9, l10] (v.toList ++ S) H' Q) : W0 rm 112 [l0, l1, l2, l3, l4, l5, l6, l7, l8, l9, l10] (a1 :: a0 :: .ref i :: S) H Q := W.callV (c := 0) (S := S) (as := [a0, a1]) (rm' := rm') at_112 (List.mem_of_getElem? (i := 20) rfl) (List.mem_of_getElem? (i := 21) rfl) (List.mem_of_getElem? (i := 23) rfl) (Or.inl rfl) kt (List.mem_of_getElem? (i := 22) rfl) (List.mem_of_getElem? (i := 2) rfl) (List.mem_of_getElem? (i := 24) rfl) (by decide) rfl pd2 rfl rfl hH hM hr h
theorem s0_115 {rm : Room} {S : List Value} {H : AHeap} {Q : Option Value → AHeap → Prop} {l0 l1 l2 l3 l4 l5 l7 l8 l9 l10 : Slot} {x : Int32} (h : W0 rm 117 [l0, l1, l2, l3, l4, l5, .val (.int x), l7, l8, l9, l10] (.int x :: S) (H) Q) : W0 rm 115 [l0, l1, l2, l3, l4, l5, .val (.int x), l7, l8, l9, l10] (S) H Q := W.iload at_115 rfl h
theorem s0_117 {rm : Room} {S : List Value} {H : AHeap} {Q : Option Value → AHeap → Prop} {l0 l1 l2 l3 l4 l5 l6 l7 l8 l9 l10 : Slot} {x : Int32} (h1 : x = 0 → W0 rm 126 [l0, l1, l2, l3, l4, l5, l6, l7, l8, l9, l10] S H Q) (h2 : ¬ x = 0 → W0 rm 120 [l0, l1, l2, l3, l4, l5, l6, l7, l8, l9, l10] S H Q) : W0 rm 117 [l0, l1, l2, l3, l4, l5, l6, l7, l8, l9, l10] (.int x :: S) H Q := W.ifc at_117 (by decide) (by decide) h1 h2
theorem s0_120 {rm : Room} {S : List Value} {H : AHeap} {Q : Option Value → AHeap → Prop} {l0 l1 l2 l3 l4 l5 l6 l7 l9 l10 : Slot} {i : Nat} (h : W0 rm 122 [l0, l1, l2, l3, l4, l5, l6, l7, .val (.ref i), l9, l10] (.ref i :: S) (H) Q) : W0 rm 120 [l0, l1, l2, l3, l4, l5, l6, l7, .val (.ref i), l9, l10] (S) H Q := W.aload at_120 rfl rfl h
theorem s0_120n {rm : Room} {S : List Value} {H : AHeap} {Q : Option Value → AHeap → Prop} {l0 l1 l2 l3 l4 l5 l6 l7 l9 l10 : Slot}  (h : W0 rm 122 [l0, l1, l2, l3, l4, l5, l6, l7, .val .null, l9, l10] (.null :: S) (H) Q) : W0 rm 120 [l0, l1, l2, l3, l4, l5, l6, l7, .val .null, l9, l10] (S) H Q := W.aload at_120 rfl rfl h
theorem s0_122 {rm : Room} {S : List Value} {H : AHeap} {Q : Option Value → AHeap → Prop} {l0 l1 l2 l3 l4 l5 l6 l7 l8 l9 l10 : Slot}  (h : W0 rm 123 [l0, l1, l2, l3, l4, l5, l6, l7, l8, l9, l10] (.int 2 :: S) (H) Q) : W0 rm 122 [l0, l1, l2, l3, l4, l5, l6, l7, l8, l9, l10] (S) H Q := W.iconst' at_122 (by decide) h
theorem s0_123 {rm : Room} {S : List Value} {H : AHeap} {Q : Option Value → AHeap → Prop} {l0 l1 l2 l3 l4 l5 l6 l7 l8 l9 l10 : Slot} {rm' : Room} {H' : AHeap} {i : Nat} {vs : List Value} {a0 : Int32}  (hH : H[i]? = some (.inl (0, vs))) (hM : M5 rm' [.ref i, .int a0] H (Is none H')) (hr : rok rm rm' 3 S = true) (h : W0 (less rm rm') 126 [l0, l1, l2, l3, l4, l5, l6, l7, l8, l9, l10] (S) H' Q) : W0 rm 123 [l0, l1, l2, l3, l4, l5, l6, l7, l8, l9, l10] (.int a0 :: .ref i :: S) H Q := W.callV (c := 0) (S := S) (as := [.int a0]) (rm' := rm') at_123 (List.mem_of_getElem? (i := 34) rfl) (List.mem_of_getElem? (i := 35) rfl) (List.mem_of_getElem? (i := 37) rfl) (Or.inl rfl) kt (List.mem_of_getElem? (i := 36) rfl) (List.mem_of_getElem? (i := 2) rfl) (List.mem_of_getElem? (i := 38) rfl) (by decide) rfl pd1 rfl rfl hH hM hr (fun _ _ q => by obtain ⟨rfl, rfl⟩ := q; exact h)
theorem s0_123q {rm : Room} {S : List Value} {H : AHeap} {Q : Option Value → AHeap → Prop} {l0 l1 l2 l3 l4 l5 l6 l7 l8 l9 l10 : Slot} {rm' : Room} {Q' : Option Value → AHeap → Prop} {i : Nat} {vs : List Value} {a0 : Value} (hH : H[i]? = some (.inl (0, vs))) (hM : M5 rm' [.ref i, a0] H Q') (hr : rok rm rm' 3 S = true) (h : ∀ v H', Q' v H' → W0 (less rm rm') 126 [l0, l1, l2, l3, l4, l5, l6, l7, l8, l9, l10] (v.toList ++ S) H' Q) : W0 rm 123 [l0, l1, l2, l3, l4, l5, l6, l7, l8, l9, l10] (a0 :: .ref i :: S) H Q := W.callV (c := 0) (S := S) (as := [a0]) (rm' := rm') at_123 (List.mem_of_getElem? (i := 34) rfl) (List.mem_of_getElem? (i := 35) rfl) (List.mem_of_getElem? (i := 37) rfl) (Or.inl rfl) kt (List.mem_of_getElem? (i := 36) rfl) (List.mem_of_getElem? (i := 2) rfl) (List.mem_of_getElem? (i := 38) rfl) (by decide) rfl pd1 rfl rfl hH hM hr h
theorem s0_126 {rm : Room} {S : List Value} {H : AHeap} {Q : Option Value → AHeap → Prop} {l0 l1 l2 l3 l5 l6 l7 l8 l9 l10 : Slot} {x : Int32} (h : W0 rm 128 [l0, l1, l2, l3, .val (.int x), l5, l6, l7, l8, l9, l10] (.int x :: S) (H) Q) : W0 rm 126 [l0, l1, l2, l3, .val (.int x), l5, l6, l7, l8, l9, l10] (S) H Q := W.iload at_126 rfl h
theorem s0_128 {rm : Room} {S : List Value} {H : AHeap} {Q : Option Value → AHeap → Prop} {l0 l1 l2 l3 l4 l5 l6 l7 l8 l9 l10 : Slot} {x : Int32} (h1 : x = 0 → W0 rm 137 [l0, l1, l2, l3, l4, l5, l6, l7, l8, l9, l10] S H Q) (h2 : ¬ x = 0 → W0 rm 131 [l0, l1, l2, l3, l4, l5, l6, l7, l8, l9, l10] S H Q) : W0 rm 128 [l0, l1, l2, l3, l4, l5, l6, l7, l8, l9, l10] (.int x :: S) H Q := W.ifc at_128 (by decide) (by decide) h1 h2
theorem s0_131 {rm : Room} {S : List Value} {H : AHeap} {Q : Option Value → AHeap → Prop} {l0 l1 l2 l3 l4 l5 l6 l7 l9 l10 : Slot} {i : Nat} (h : W0 rm 133 [l0, l1, l2, l3, l4, l5, l6, l7, .val (.ref i), l9, l10] (.ref i :: S) (H) Q) : W0 rm 131 [l0, l1, l2, l3, l4, l5, l6, l7, .val (.ref i), l9, l10] (S) H Q := W.aload at_131 rfl rfl h
theorem s0_131n {rm : Room} {S : List Value} {H : AHeap} {Q : Option Value → AHeap → Prop} {l0 l1 l2 l3 l4 l5 l6 l7 l9 l10 : Slot}  (h : W0 rm 133 [l0, l1, l2, l3, l4, l5, l6, l7, .val .null, l9, l10] (.null :: S) (H) Q) : W0 rm 131 [l0, l1, l2, l3, l4, l5, l6, l7, .val .null, l9, l10] (S) H Q := W.aload at_131 rfl rfl h
theorem s0_133 {rm : Room} {S : List Value} {H : AHeap} {Q : Option Value → AHeap → Prop} {l0 l1 l2 l3 l4 l5 l6 l7 l8 l9 l10 : Slot}  (h : W0 rm 134 [l0, l1, l2, l3, l4, l5, l6, l7, l8, l9, l10] (.int 3 :: S) (H) Q) : W0 rm 133 [l0, l1, l2, l3, l4, l5, l6, l7, l8, l9, l10] (S) H Q := W.iconst' at_133 (by decide) h
theorem s0_134 {rm : Room} {S : List Value} {H : AHeap} {Q : Option Value → AHeap → Prop} {l0 l1 l2 l3 l4 l5 l6 l7 l8 l9 l10 : Slot} {rm' : Room} {H' : AHeap} {i : Nat} {vs : List Value} {a0 : Int32}  (hH : H[i]? = some (.inl (0, vs))) (hM : M5 rm' [.ref i, .int a0] H (Is none H')) (hr : rok rm rm' 3 S = true) (h : W0 (less rm rm') 137 [l0, l1, l2, l3, l4, l5, l6, l7, l8, l9, l10] (S) H' Q) : W0 rm 134 [l0, l1, l2, l3, l4, l5, l6, l7, l8, l9, l10] (.int a0 :: .ref i :: S) H Q := W.callV (c := 0) (S := S) (as := [.int a0]) (rm' := rm') at_134 (List.mem_of_getElem? (i := 34) rfl) (List.mem_of_getElem? (i := 35) rfl) (List.mem_of_getElem? (i := 37) rfl) (Or.inl rfl) kt (List.mem_of_getElem? (i := 36) rfl) (List.mem_of_getElem? (i := 2) rfl) (List.mem_of_getElem? (i := 38) rfl) (by decide) rfl pd1 rfl rfl hH hM hr (fun _ _ q => by obtain ⟨rfl, rfl⟩ := q; exact h)
theorem s0_134q {rm : Room} {S : List Value} {H : AHeap} {Q : Option Value → AHeap → Prop} {l0 l1 l2 l3 l4 l5 l6 l7 l8 l9 l10 : Slot} {rm' : Room} {Q' : Option Value → AHeap → Prop} {i : Nat} {vs : List Value} {a0 : Value} (hH : H[i]? = some (.inl (0, vs))) (hM : M5 rm' [.ref i, a0] H Q') (hr : rok rm rm' 3 S = true) (h : ∀ v H', Q' v H' → W0 (less rm rm') 137 [l0, l1, l2, l3, l4, l5, l6, l7, l8, l9, l10] (v.toList ++ S) H' Q) : W0 rm 134 [l0, l1, l2, l3, l4, l5, l6, l7, l8, l9, l10] (a0 :: .ref i :: S) H Q := W.callV (c := 0) (S := S) (as := [a0]) (rm' := rm') at_134 (List.mem_of_getElem? (i := 34) rfl) (List.mem_of_getElem? (i := 35) rfl) (List.mem_of_getElem? (i := 37) rfl) (Or.inl rfl) kt (List.mem_of_getElem? (i := 36) rfl) (List.mem_of_getElem? (i := 2) rfl) (List.mem_of_getElem? (i := 38) rfl) (by decide) rfl pd1 rfl rfl hH hM hr h
theorem s0_137 {rm : Room} {S : List Value} {H : AHeap} {Q : Option Value → AHeap → Prop} {l0 l1 l2 l3 l4 l6 l7 l8 l9 l10 : Slot} {x : Int32} (h : W0 rm 139 [l0, l1, l2, l3, l4, .val (.int x), l6, l7, l8, l9, l10] (.int x :: S) (H) Q) : W0 rm 137 [l0, l1, l2, l3, l4, .val (.int x), l6, l7, l8, l9, l10] (S) H Q := W.iload at_137 rfl h
theorem s0_139 {rm : Room} {S : List Value} {H : AHeap} {Q : Option Value → AHeap → Prop} {l0 l1 l2 l3 l4 l5 l6 l7 l8 l9 l10 : Slot} {x : Int32} (h1 : x = 0 → W0 rm 148 [l0, l1, l2, l3, l4, l5, l6, l7, l8, l9, l10] S H Q) (h2 : ¬ x = 0 → W0 rm 142 [l0, l1, l2, l3, l4, l5, l6, l7, l8, l9, l10] S H Q) : W0 rm 139 [l0, l1, l2, l3, l4, l5, l6, l7, l8, l9, l10] (.int x :: S) H Q := W.ifc at_139 (by decide) (by decide) h1 h2
theorem s0_142 {rm : Room} {S : List Value} {H : AHeap} {Q : Option Value → AHeap → Prop} {l0 l1 l2 l3 l4 l5 l6 l7 l9 l10 : Slot} {i : Nat} (h : W0 rm 144 [l0, l1, l2, l3, l4, l5, l6, l7, .val (.ref i), l9, l10] (.ref i :: S) (H) Q) : W0 rm 142 [l0, l1, l2, l3, l4, l5, l6, l7, .val (.ref i), l9, l10] (S) H Q := W.aload at_142 rfl rfl h
theorem s0_142n {rm : Room} {S : List Value} {H : AHeap} {Q : Option Value → AHeap → Prop} {l0 l1 l2 l3 l4 l5 l6 l7 l9 l10 : Slot}  (h : W0 rm 144 [l0, l1, l2, l3, l4, l5, l6, l7, .val .null, l9, l10] (.null :: S) (H) Q) : W0 rm 142 [l0, l1, l2, l3, l4, l5, l6, l7, .val .null, l9, l10] (S) H Q := W.aload at_142 rfl rfl h
theorem s0_144 {rm : Room} {S : List Value} {H : AHeap} {Q : Option Value → AHeap → Prop} {l0 l1 l2 l3 l4 l5 l6 l7 l8 l9 l10 : Slot}  (h : W0 rm 145 [l0, l1, l2, l3, l4, l5, l6, l7, l8, l9, l10] (.int 1 :: S) (H) Q) : W0 rm 144 [l0, l1, l2, l3, l4, l5, l6, l7, l8, l9, l10] (S) H Q := W.iconst' at_144 (by decide) h
theorem s0_145 {rm : Room} {S : List Value} {H : AHeap} {Q : Option Value → AHeap → Prop} {l0 l1 l2 l3 l4 l5 l6 l7 l8 l9 l10 : Slot} {rm' : Room} {H' : AHeap} {i : Nat} {vs : List Value} {a0 : Int32}  (hH : H[i]? = some (.inl (0, vs))) (hM : M5 rm' [.ref i, .int a0] H (Is none H')) (hr : rok rm rm' 3 S = true) (h : W0 (less rm rm') 148 [l0, l1, l2, l3, l4, l5, l6, l7, l8, l9, l10] (S) H' Q) : W0 rm 145 [l0, l1, l2, l3, l4, l5, l6, l7, l8, l9, l10] (.int a0 :: .ref i :: S) H Q := W.callV (c := 0) (S := S) (as := [.int a0]) (rm' := rm') at_145 (List.mem_of_getElem? (i := 34) rfl) (List.mem_of_getElem? (i := 35) rfl) (List.mem_of_getElem? (i := 37) rfl) (Or.inl rfl) kt (List.mem_of_getElem? (i := 36) rfl) (List.mem_of_getElem? (i := 2) rfl) (List.mem_of_getElem? (i := 38) rfl) (by decide) rfl pd1 rfl rfl hH hM hr (fun _ _ q => by obtain ⟨rfl, rfl⟩ := q; exact h)
theorem s0_145q {rm : Room} {S : List Value} {H : AHeap} {Q : Option Value → AHeap → Prop} {l0 l1 l2 l3 l4 l5 l6 l7 l8 l9 l10 : Slot} {rm' : Room} {Q' : Option Value → AHeap → Prop} {i : Nat} {vs : List Value} {a0 : Value} (hH : H[i]? = some (.inl (0, vs))) (hM : M5 rm' [.ref i, a0] H Q') (hr : rok rm rm' 3 S = true) (h : ∀ v H', Q' v H' → W0 (less rm rm') 148 [l0, l1, l2, l3, l4, l5, l6, l7, l8, l9, l10] (v.toList ++ S) H' Q) : W0 rm 145 [l0, l1, l2, l3, l4, l5, l6, l7, l8, l9, l10] (a0 :: .ref i :: S) H Q := W.callV (c := 0) (S := S) (as := [a0]) (rm' := rm') at_145 (List.mem_of_getElem? (i := 34) rfl) (List.mem_of_getElem? (i := 35) rfl) (List.mem_of_getElem? (i := 37) rfl) (Or.inl rfl) kt (List.mem_of_getElem? (i := 36) rfl) (List.mem_of_getElem? (i := 2) rfl) (List.mem_of_getElem? (i := 38) rfl) (by decide) rfl pd1 rfl rfl hH hM hr h
theorem s0_148 {rm : Room} {S : List Value} {H : AHeap} {Q : Option Value → AHeap → Prop} {l0 l1 l2 l3 l4 l5 l6 l8 l9 l10 : Slot} {x : Int32} (h : W0 rm 150 [l0, l1, l2, l3, l4, l5, l6, .val (.int x), l8, l9, l10] (.int x :: S) (H) Q) : W0 rm 148 [l0, l1, l2, l3, l4, l5, l6, .val (.int x), l8, l9, l10] (S) H Q := W.iload at_148 rfl h
theorem s0_150 {rm : Room} {S : List Value} {H : AHeap} {Q : Option Value → AHeap → Prop} {l0 l1 l2 l3 l4 l5 l6 l7 l8 l9 l10 : Slot} {x : Int32} (h1 : x = 0 → W0 rm 160 [l0, l1, l2, l3, l4, l5, l6, l7, l8, l9, l10] S H Q) (h2 : ¬ x = 0 → W0 rm 153 [l0, l1, l2, l3, l4, l5, l6, l7, l8, l9, l10] S H Q) : W0 rm 150 [l0, l1, l2, l3, l4, l5, l6, l7, l8, l9, l10] (.int x :: S) H Q := W.ifc at_150 (by decide) (by decide) h1 h2
theorem s0_153 {rm : Room} {S : List Value} {H : AHeap} {Q : Option Value → AHeap → Prop} {l0 l1 l2 l3 l4 l5 l6 l7 l9 l10 : Slot} {i : Nat} (h : W0 rm 155 [l0, l1, l2, l3, l4, l5, l6, l7, .val (.ref i), l9, l10] (.ref i :: S) (H) Q) : W0 rm 153 [l0, l1, l2, l3, l4, l5, l6, l7, .val (.ref i), l9, l10] (S) H Q := W.aload at_153 rfl rfl h
theorem s0_153n {rm : Room} {S : List Value} {H : AHeap} {Q : Option Value → AHeap → Prop} {l0 l1 l2 l3 l4 l5 l6 l7 l9 l10 : Slot}  (h : W0 rm 155 [l0, l1, l2, l3, l4, l5, l6, l7, .val .null, l9, l10] (.null :: S) (H) Q) : W0 rm 153 [l0, l1, l2, l3, l4, l5, l6, l7, .val .null, l9, l10] (S) H Q := W.aload at_153 rfl rfl h
theorem s0_155 {rm : Room} {S : List Value} {H : AHeap} {Q : Option Value → AHeap → Prop} {l0 l1 l2 l3 l4 l5 l6 l7 l8 l9 l10 : Slot}  (h : W0 rm 156 [l0, l1, l2, l3, l4, l5, l6, l7, l8, l9, l10] (.int 1 :: S) (H) Q) : W0 rm 155 [l0, l1, l2, l3, l4, l5, l6, l7, l8, l9, l10] (S) H Q := W.iconst' at_155 (by decide) h
theorem s0_156 {rm : Room} {S : List Value} {H : AHeap} {Q : Option Value → AHeap → Prop} {l0 l1 l2 l3 l4 l5 l6 l7 l8 l9 l10 : Slot}  (h : W0 rm 157 [l0, l1, l2, l3, l4, l5, l6, l7, l8, l9, l10] (.int 1 :: S) (H) Q) : W0 rm 156 [l0, l1, l2, l3, l4, l5, l6, l7, l8, l9, l10] (S) H Q := W.iconst' at_156 (by decide) h
theorem s0_157 {rm : Room} {S : List Value} {H : AHeap} {Q : Option Value → AHeap → Prop} {l0 l1 l2 l3 l4 l5 l6 l7 l8 l9 l10 : Slot} {rm' : Room} {H' : AHeap} {i : Nat} {vs : List Value} {a0 : Int32} {a1 : Int32}  (hH : H[i]? = some (.inl (0, vs))) (hM : M2 rm' [.ref i, .int a0, .int a1] H (Is none H')) (hr : rok rm rm' 3 S = true) (h : W0 (less rm rm') 160 [l0, l1, l2, l3, l4, l5, l6, l7, l8, l9, l10] (S) H' Q) : W0 rm 157 [l0, l1, l2, l3, l4, l5, l6, l7, l8, l9, l10] (.int a1 :: .int a0 :: .ref i :: S) H Q := W.callV (c := 0) (S := S) (as := [.int a0, .int a1]) (rm' := rm') at_157 (List.mem_of_getElem? (i := 20) rfl) (List.mem_of_getElem? (i := 21) rfl) (List.mem_of_getElem? (i := 23) rfl) (Or.inl rfl) kt (List.mem_of_getElem? (i := 22) rfl) (List.mem_of_getElem? (i := 2) rfl) (List.mem_of_getElem? (i := 24) rfl) (by decide) rfl pd2 rfl rfl hH hM hr (fun _ _ q => by obtain ⟨rfl, rfl⟩ := q; exact h)
theorem s0_157q {rm : Room} {S : List Value} {H : AHeap} {Q : Option Value → AHeap → Prop} {l0 l1 l2 l3 l4 l5 l6 l7 l8 l9 l10 : Slot} {rm' : Room} {Q' : Option Value → AHeap → Prop} {i : Nat} {vs : List Value} {a0 a1 : Value} (hH : H[i]? = some (.inl (0, vs))) (hM : M2 rm' [.ref i, a0, a1] H Q') (hr : rok rm rm' 3 S = true) (h : ∀ v H', Q' v H' → W0 (less rm rm') 160 [l0, l1, l2, l3, l4, l5, l6, l7, l8, l9, l10] (v.toList ++ S) H' Q) : W0 rm 157 [l0, l1, l2, l3, l4, l5, l6, l7, l8, l9, l10] (a1 :: a0 :: .ref i :: S) H Q := W.callV (c := 0) (S := S) (as := [a0, a1]) (rm' := rm') at_157 (List.mem_of_getElem? (i := 20) rfl) (List.mem_of_getElem? (i := 21) rfl) (List.mem_of_getElem? (i := 23) rfl) (Or.inl rfl) kt (List.mem_of_getElem? (i := 22) rfl) (List.mem_of_getElem? (i := 2) rfl) (List.mem_of_getElem? (i := 24) rfl) (by decide) rfl pd2 rfl rfl hH hM hr h
theorem s0_160 {rm : Room} {S : List Value} {H : AHeap} {Q : Option Value → AHeap → Prop} {l0 l1 l2 l3 l4 l5 l6 l7 l9 l10 : Slot} {i : Nat} (h : W0 rm 162 [l0, l1, l2, l3, l4, l5, l6, l7, .val (.ref i), l9, l10] (.ref i :: S) (H) Q) : W0 rm 160 [l0, l1, l2, l3, l4, l5, l6, l7, .val (.ref i), l9, l10] (S) H Q := W.aload at_160 rfl rfl h
theorem s0_160n {rm : Room} {S : List Value} {H : AHeap} {Q : Option Value → AHeap → Prop} {l0 l1 l2 l3 l4 l5 l6 l7 l9 l10 : Slot}  (h : W0 rm 162 [l0, l1, l2, l3, l4, l5, l6, l7, .val .null, l9, l10] (.null :: S) (H) Q) : W0 rm 160 [l0, l1, l2, l3, l4, l5, l6, l7, .val .null, l9, l10] (S) H Q := W.aload at_160 rfl rfl h
theorem s0_162 {rm : Room} {S : List Value} {H : AHeap} {Q : Option Value → AHeap → Prop} {l0 l1 l2 l3 l4 l5 l6 l7 l8 l9 l10 : Slot}  (h : W0 rm 163 [l0, l1, l2, l3, l4, l5, l6, l7, l8, l9, l10] (.int 1 :: S) (H) Q) : W0 rm 162 [l0, l1, l2, l3, l4, l5, l6, l7, l8, l9, l10] (S) H Q := W.iconst' at_162 (by decide) h
theorem s0_163 {rm : Room} {S : List Value} {H : AHeap} {Q : Option Value → AHeap → Prop} {l0 l1 l2 l3 l4 l5 l6 l7 l8 l9 l10 : Slot} {rm' : Room} {H' : AHeap} {i : Nat} {vs : List Value} {a0 : Int32} {r : Nat} (hH : H[i]? = some (.inl (0, vs))) (hM : M3 rm' [.ref i, .int a0] H (Is (some (.ref r)) H')) (hr : rok rm rm' 6 S = true) (h : W0 (less rm rm') 166 [l0, l1, l2, l3, l4, l5, l6, l7, l8, l9, l10] (.ref r :: S) H' Q) : W0 rm 163 [l0, l1, l2, l3, l4, l5, l6, l7, l8, l9, l10] (.int a0 :: .ref i :: S) H Q := W.callV (c := 0) (S := S) (as := [.int a0]) (rm' := rm') at_163 (List.mem_of_getElem? (i := 25) rfl) (List.mem_of_getElem? (i := 26) rfl) (List.mem_of_getElem? (i := 28) rfl) (Or.inl rfl) kt (List.mem_of_getElem? (i := 27) rfl) (List.mem_of_getElem? (i := 2) rfl) (List.mem_of_getElem? (i := 29) rfl) (by decide) rfl pd3 rfl rfl hH hM hr (fun _ _ q => by obtain ⟨rfl, rfl⟩ := q; exact h)
theorem s0_163q {rm : Room} {S : List Value} {H : AHeap} {Q : Option Value → AHeap → Prop} {l0 l1 l2 l3 l4 l5 l6 l7 l8 l9 l10 : Slot} {rm' : Room} {Q' : Option Value → AHeap → Prop} {i : Nat} {vs : List Value} {a0 : Value} (hH : H[i]? = some (.inl (0, vs))) (hM : M3 rm' [.ref i, a0] H Q') (hr : rok rm rm' 6 S = true) (h : ∀ v H', Q' v H' → W0 (less rm rm') 166 [l0, l1, l2, l3, l4, l5, l6, l7, l8, l9, l10] (v.toList ++ S) H' Q) : W0 rm 163 [l0, l1, l2, l3, l4, l5, l6, l7, l8, l9, l10] (a0 :: .ref i :: S) H Q := W.callV (c := 0) (S := S) (as := [a0]) (rm' := rm') at_163 (List.mem_of_getElem? (i := 25) rfl) (List.mem_of_getElem? (i := 26) rfl) (List.mem_of_getElem? (i := 28) rfl) (Or.inl rfl) kt (List.mem_of_getElem? (i := 27) rfl) (List.mem_of_getElem? (i := 2) rfl) (List.mem_of_getElem? (i := 29) rfl) (by decide) rfl pd3 rfl rfl hH hM hr h
theorem s0_166 {rm : Room} {S : List Value} {H : AHeap} {Q : Option Value → AHeap → Prop} {l0 l1 l2 l3 l4 l5 l6 l7 l8 l9 l10 : Slot}  (h : W0 rm 167 [l0, l1, l2, l3, l4, l5, l6, l7, l8, l9, l10] (.int 1 :: S) (H) Q) : W0 rm 166 [l0, l1, l2, l3, l4, l5, l6, l7, l8, l9, l10] (S) H Q := W.iconst' at_166 (by decide) h
theorem s0_167 {rm : Room} {S : List Value} {H : AHeap} {Q : Option Value → AHeap → Prop} {l0 l1 l3 l4 l5 l6 l7 l8 l9 l10 : Slot} {x : Int32} (h : W0 rm 168 [l0, l1, .val (.int x), l3, l4, l5, l6, l7, l8, l9, l10] (.int x :: S) (H) Q) : W0 rm 167 [l0, l1, .val (.int x), l3, l4, l5, l6, l7, l8, l9, l10] (S) H Q := W.iload_n at_167 rfl h
theorem s0_168 {rm : Room} {S : List Value} {H : AHeap} {Q : Option Value → AHeap → Prop} {l0 l1 l2 l4 l5 l6 l7 l8 l9 l10 : Slot} {x : Int32} (h : W0 rm 169 [l0, l1, l2, .val (.int x), l4, l5, l6, l7, l8, l9, l10] (.int x :: S) (H) Q) : W0 rm 168 [l0, l1, l2, .val (.int x), l4, l5, l6, l7, l8, l9, l10] (S) H Q := W.iload_n at_168 rfl h
theorem s0_169 {rm : Room} {S : List Value} {H : AHeap} {Q : Option Value → AHeap → Prop} {l0 l1 l2 l3 l5 l6 l7 l8 l9 l10 : Slot} {x : Int32} (h : W0 rm 171 [l0, l1, l2, l3, .val (.int x), l5, l6, l7, l8, l9, l10] (.int x :: S) (H) Q) : W0 rm 169 [l0, l1, l2, l3, .val (.int x), l5, l6, l7, l8, l9, l10] (S) H Q := W.iload at_169 rfl h
theorem s0_171 {rm : Room} {S : List Value} {H : AHeap} {Q : Option Value → AHeap → Prop} {l0 l1 l2 l3 l4 l6 l7 l8 l9 l10 : Slot} {x : Int32} (h : W0 rm 173 [l0, l1, l2, l3, l4, .val (.int x), l6, l7, l8, l9, l10] (.int x :: S) (H) Q) : W0 rm 171 [l0, l1, l2, l3, l4, .val (.int x), l6, l7, l8, l9, l10] (S) H Q := W.iload at_171 rfl h
theorem s0_173 {rm : Room} {S : List Value} {H : AHeap} {Q : Option Value → AHeap → Prop} {l0 l1 l2 l3 l4 l5 l7 l8 l9 l10 : Slot} {x : Int32} (h : W0 rm 175 [l0, l1, l2, l3, l4, l5, .val (.int x), l7, l8, l9, l10] (.int x :: S) (H) Q) : W0 rm 173 [l0, l1, l2, l3, l4, l5, .val (.int x), l7, l8, l9, l10] (S) H Q := W.iload at_173 rfl h
theorem s0_175 {rm : Room} {S : List Value} {H : AHeap} {Q : Option Value → AHeap → Prop} {l0 l1 l2 l3 l4 l5 l6 l8 l9 l10 : Slot} {x : Int32} (h : W0 rm 177 [l0, l1, l2, l3, l4, l5, l6, .val (.int x), l8, l9, l10] (.int x :: S) (H) Q) : W0 rm 175 [l0, l1, l2, l3, l4, l5, l6, .val (.int x), l8, l9, l10] (S) H Q := W.iload at_175 rfl h
theorem s0_177 {rm : Room} {S : List Value} {H : AHeap} {Q : Option Value → AHeap → Prop} {l0 l1 l2 l3 l4 l5 l6 l7 l8 l9 l10 : Slot} {rm' : Room} {H' : AHeap} {a0 : Nat} {a1 : Int32} {a2 : Int32} {a3 : Int32} {a4 : Int32} {a5 : Int32} {a6 : Int32} {a7 : Int32} {r : Int32} (hM : M4 rm' [.ref a0, .int a1, .int a2, .int a3, .int a4, .int a5, .int a6, .int a7] H (Is (some (.int r)) H')) (hr : rok rm rm' 10 S = true) (h : W0 (less rm rm') 180 [l0, l1, l2, l3, l4, l5, l6, l7, l8, l9, l10] (.int r :: S) H' Q) : W0 rm 177 [l0, l1, l2, l3, l4, l5, l6, l7, l8, l9, l10] (.int a7 :: .int a6 :: .int a5 :: .int a4 :: .int a3 :: .int a2 :: .int a1 :: .ref a0 :: S) H Q := W.callS (S := S) (as := [.ref a0, .int a1, .int a2, .int a3, .int a4, .int a5, .int a6, .int a7]) (rm' := rm') at_177 (List.mem_of_getElem? (i := 30) rfl) (List.mem_of_getElem? (i := 31) rfl) (List.mem_of_getElem? (i := 32) rfl) (List.mem_of_getElem? (i := 33) rfl) (by decide) pd4 rfl rfl hM hr (fun _ _ q => by obtain ⟨rfl, rfl⟩ := q; exact h)
theorem s0_177q {rm : Room} {S : List Value} {H : AHeap} {Q : Option Value → AHeap → Prop} {l0 l1 l2 l3 l4 l5 l6 l7 l8 l9 l10 : Slot} {rm' : Room} {Q' : Option Value → AHeap → Prop} {a0 a1 a2 a3 a4 a5 a6 a7 : Value} (hM : M4 rm' [a0, a1, a2, a3, a4, a5, a6, a7] H Q') (hr : rok rm rm' 10 S = true) (h : ∀ v H', Q' v H' → W0 (less rm rm') 180 [l0, l1, l2, l3, l4, l5, l6, l7, l8, l9, l10] (v.toList ++ S) H' Q) : W0 rm 177 [l0, l1, l2, l3, l4, l5, l6, l7, l8, l9, l10] (a7 :: a6 :: a5 :: a4 :: a3 :: a2 :: a1 :: a0 :: S) H Q := W.callS (S := S) (as := [a0, a1, a2, a3, a4, a5, a6, a7]) (rm' := rm') at_177 (List.mem_of_getElem? (i := 30) rfl) (List.mem_of_getElem? (i := 31) rfl) (List.mem_of_getElem? (i := 32) rfl) (List.mem_of_getElem? (i := 33) rfl) (by decide) pd4 rfl rfl hM hr h
theorem s0_180 {rm : Room} {S : List Value} {H : AHeap} {Q : Option Value → AHeap → Prop} {l0 l1 l2 l3 l4 l5 l6 l7 l8 l9 l10 : Slot} {x : Int32} (ho : one l9 = true) (h : W0 rm 182 [l0, l1, l2, l3, l4, l5, l6, l7, l8, .val (.int x), l10] (S) (H) Q) : W0 rm 180 [l0, l1, l2, l3, l4, l5, l6, l7, l8, l9, l10] (.int x :: S) H Q := W.istore at_180 rfl ho h
theorem s0_180w {rm : Room} {S : List Value} {H : AHeap} {Q : Option Value → AHeap → Prop} {l0 l1 l2 l3 l4 l5 l6 l7 l8 l10 : Slot} {w : Value} {x : Int32} (ho : w.category = 2) (h : W0 rm 182 [l0, l1, l2, l3, l4, l5, l6, l7, l8, .val (.int x), .unset] (S) (H) Q) : W0 rm 180 [l0, l1, l2, l3, l4, l5, l6, l7, l8, .val w, l10] (.int x :: S) H Q := W.istoreW at_180 rfl ho (Nat.le_of_ble_eq_true rfl) h
theorem s0_180s {rm : Room} {S : List Value} {H : AHeap} {Q : Option Value → AHeap → Prop} {l0 l1 l2 l3 l4 l5 l6 l7 l8 l10 : Slot} {x : Int32} (h : W0 rm 182 [l0, l1, l2, l3, l4, l5, l6, l7, .unset, .val (.int x), l10] (S) (H) Q) : W0 rm 180 [l0, l1, l2, l3, l4, l5, l6, l7, l8, .second, l10] (.int x :: S) H Q := W.istoreS at_180 rfl (by decide) h
theorem s0_182 {rm : Room} {S : List Value} {H : AHeap} {Q : Option Value → AHeap → Prop} {l0 l1 l3 l4 l5 l6 l7 l8 l9 l10 : Slot} {x : Int32} (h : W0 rm 183 [l0, l1, .val (.int x), l3, l4, l5, l6, l7, l8, l9, l10] (.int x :: S) (H) Q) : W0 rm 182 [l0, l1, .val (.int x), l3, l4, l5, l6, l7, l8, l9, l10] (S) H Q := W.iload_n at_182 rfl h
theorem s0_183 {rm : Room} {S : List Value} {H : AHeap} {Q : Option Value → AHeap → Prop} {l0 l1 l2 l3 l4 l5 l6 l7 l8 l9 l10 : Slot}  (h : W0 rm 184 [l0, l1, l2, l3, l4, l5, l6, l7, l8, l9, l10] (.int 2 :: S) (H) Q) : W0 rm 183 [l0, l1, l2, l3, l4, l5, l6, l7, l8, l9, l10] (S) H Q := W.iconst' at_183 (by decide) h
theorem s0_184 {rm : Room} {S : List Value} {H : AHeap} {Q : Option Value → AHeap → Prop} {l0 l1 l2 l3 l4 l5 l6 l7 l8 l9 l10 : Slot} {x y : Int32} (h1 : x = y → W0 rm 192 [l0, l1, l2, l3, l4, l5, l6, l7, l8, l9, l10] S H Q) (h2 : ¬ x = y → W0 rm 187 [l0, l1, l2, l3, l4, l5, l6, l7, l8, l9, l10] S H Q) : W0 rm 184 [l0, l1, l2, l3, l4, l5, l6, l7, l8, l9, l10] (.int y :: .int x :: S) H Q := W.icmp at_184 (by decide) (by decide) h1 h2
theorem s0_187 {rm : Room} {S : List Value} {H : AHeap} {Q : Option Value → AHeap → Prop} {l0 l1 l2 l4 l5 l6 l7 l8 l9 l10 : Slot} {x : Int32} (h : W0 rm 188 [l0, l1, l2, .val (.int x), l4, l5, l6, l7, l8, l9, l10] (.int x :: S) (H) Q) : W0 rm 187 [l0, l1, l2, .val (.int x), l4, l5, l6, l7, l8, l9, l10] (S) H Q := W.iload_n at_187 rfl h
theorem s0_188 {rm : Room} {S : List Value} {H : AHeap} {Q : Option Value → AHeap → Prop} {l0 l1 l2 l3 l4 l5 l6 l7 l8 l9 l10 : Slot}  (h : W0 rm 189 [l0, l1, l2, l3, l4, l5, l6, l7, l8, l9, l10] (.int 2 :: S) (H) Q) : W0 rm 188 [l0, l1, l2, l3, l4, l5, l6, l7, l8, l9, l10] (S) H Q := W.iconst' at_188 (by decide) h
theorem s0_189 {rm : Room} {S : List Value} {H : AHeap} {Q : Option Value → AHeap → Prop} {l0 l1 l2 l3 l4 l5 l6 l7 l8 l9 l10 : Slot} {x y : Int32} (h1 : ¬ x = y → W0 rm 196 [l0, l1, l2, l3, l4, l5, l6, l7, l8, l9, l10] S H Q) (h2 : x = y → W0 rm 192 [l0, l1, l2, l3, l4, l5, l6, l7, l8, l9, l10] S H Q) : W0 rm 189 [l0, l1, l2, l3, l4, l5, l6, l7, l8, l9, l10] (.int y :: .int x :: S) H Q := W.icmp at_189 (by decide) (by decide) h1 h2
theorem s0_192 {rm : Room} {S : List Value} {H : AHeap} {Q : Option Value → AHeap → Prop} {l0 l1 l2 l3 l4 l5 l6 l7 l8 l9 l10 : Slot}  (h : W0 rm 193 [l0, l1, l2, l3, l4, l5, l6, l7, l8, l9, l10] (.int 1 :: S) (H) Q) : W0 rm 192 [l0, l1, l2, l3, l4, l5, l6, l7, l8, l9, l10] (S) H Q := W.iconst' at_192 (by decide) h
theorem s0_193 {rm : Room} {S : List Value} {H : AHeap} {Q : Option Value → AHeap → Prop} {l0 l1 l2 l3 l4 l5 l6 l7 l8 l9 l10 : Slot}  (h : W0 rm 197 [l0, l1, l2, l3, l4, l5, l6, l7, l8, l9, l10] (S) (H) Q) : W0 rm 193 [l0, l1, l2, l3, l4, l5, l6, l7, l8, l9, l10] (S) H Q := W.goto at_193 (by decide) (by decide) h
theorem s0_196 {rm : Room} {S : List Value} {H : AHeap} {Q : Option Value → AHeap → Prop} {l0 l1 l2 l3 l4 l5 l6 l7 l8 l9 l10 : Slot}  (h : W0 rm 197 [l0, l1, l2, l3, l4, l5, l6, l7, l8, l9, l10] (.int 0 :: S) (H) Q) : W0 rm 196 [l0, l1, l2, l3, l4, l5, l6, l7, l8, l9, l10] (S) H Q := W.iconst' at_196 (by decide) h
theorem s0_197 {rm : Room} {S : List Value} {H : AHeap} {Q : Option Value → AHeap → Prop} {l0 l1 l2 l3 l4 l5 l6 l7 l8 l9 l10 : Slot} {x : Int32} (ho : one l10 = true) (h : W0 rm 199 [l0, l1, l2, l3, l4, l5, l6, l7, l8, l9, .val (.int x)] (S) (H) Q) : W0 rm 197 [l0, l1, l2, l3, l4, l5, l6, l7, l8, l9, l10] (.int x :: S) H Q := W.istore at_197 rfl ho h
theorem s0_197s {rm : Room} {S : List Value} {H : AHeap} {Q : Option Value → AHeap → Prop} {l0 l1 l2 l3 l4 l5 l6 l7 l8 l9 : Slot} {x : Int32} (h : W0 rm 199 [l0, l1, l2, l3, l4, l5, l6, l7, l8, .unset, .val (.int x)] (S) (H) Q) : W0 rm 197 [l0, l1, l2, l3, l4, l5, l6, l7, l8, l9, .second] (.int x :: S) H Q := W.istoreS at_197 rfl (by decide) h
theorem s0_199 {rm : Room} {S : List Value} {H : AHeap} {Q : Option Value → AHeap → Prop} {l0 l1 l2 l3 l4 l5 l6 l7 l8 l9 : Slot} {x : Int32} (h : W0 rm 201 [l0, l1, l2, l3, l4, l5, l6, l7, l8, l9, .val (.int x)] (.int x :: S) (H) Q) : W0 rm 199 [l0, l1, l2, l3, l4, l5, l6, l7, l8, l9, .val (.int x)] (S) H Q := W.iload at_199 rfl h
theorem s0_201 {rm : Room} {S : List Value} {H : AHeap} {Q : Option Value → AHeap → Prop} {l0 l1 l2 l3 l4 l5 l6 l7 l8 l9 l10 : Slot} {x : Int32} (h1 : x = 0 → W0 rm 239 [l0, l1, l2, l3, l4, l5, l6, l7, l8, l9, l10] S H Q) (h2 : ¬ x = 0 → W0 rm 204 [l0, l1, l2, l3, l4, l5, l6, l7, l8, l9, l10] S H Q) : W0 rm 201 [l0, l1, l2, l3, l4, l5, l6, l7, l8, l9, l10] (.int x :: S) H Q := W.ifc at_201 (by decide) (by decide) h1 h2
theorem s0_204 {rm : Room} {S : List Value} {H : AHeap} {Q : Option Value → AHeap → Prop} {l0 l1 l2 l3 l4 l5 l6 l7 l8 l10 : Slot} {x : Int32} (h : W0 rm 206 [l0, l1, l2, l3, l4, l5, l6, l7, l8, .val (.int x), l10] (.int x :: S) (H) Q) : W0 rm 204 [l0, l1, l2, l3, l4, l5, l6, l7, l8, .val (.int x), l10] (S) H Q := W.iload at_204 rfl h
theorem s0_206 {rm : Room} {S : List Value} {H : AHeap} {Q : Option Value → AHeap → Prop} {l0 l1 l2 l3 l4 l5 l6 l7 l8 l9 l10 : Slot} {x : Int32} (h1 : x = 0 → W0 rm 236 [l0, l1, l2, l3, l4, l5, l6, l7, l8, l9, l10] S H Q) (h2 : ¬ x = 0 → W0 rm 209 [l0, l1, l2, l3, l4, l5, l6, l7, l8, l9, l10] S H Q) : W0 rm 206 [l0, l1, l2, l3, l4, l5, l6, l7, l8, l9, l10] (.int x :: S) H Q := W.ifc at_206 (by decide) (by decide) h1 h2
theorem s0_209 {rm : Room} {S : List Value} {H : AHeap} {Q : Option Value → AHeap → Prop} {l0 l1 l2 l3 l4 l5 l6 l7 l9 l10 : Slot} {i : Nat} (h : W0 rm 211 [l0, l1, l2, l3, l4, l5, l6, l7, .val (.ref i), l9, l10] (.ref i :: S) (H) Q) : W0 rm 209 [l0, l1, l2, l3, l4, l5, l6, l7, .val (.ref i), l9, l10] (S) H Q := W.aload at_209 rfl rfl h
theorem s0_209n {rm : Room} {S : List Value} {H : AHeap} {Q : Option Value → AHeap → Prop} {l0 l1 l2 l3 l4 l5 l6 l7 l9 l10 : Slot}  (h : W0 rm 211 [l0, l1, l2, l3, l4, l5, l6, l7, .val .null, l9, l10] (.null :: S) (H) Q) : W0 rm 209 [l0, l1, l2, l3, l4, l5, l6, l7, .val .null, l9, l10] (S) H Q := W.aload at_209 rfl rfl h
theorem s0_211 {rm : Room} {S : List Value} {H : AHeap} {Q : Option Value → AHeap → Prop} {l0 l1 l2 l3 l4 l5 l6 l7 l8 l9 l10 : Slot}  (h : W0 rm 212 [l0, l1, l2, l3, l4, l5, l6, l7, l8, l9, l10] (.int 2 :: S) (H) Q) : W0 rm 211 [l0, l1, l2, l3, l4, l5, l6, l7, l8, l9, l10] (S) H Q := W.iconst' at_211 (by decide) h
theorem s0_212 {rm : Room} {S : List Value} {H : AHeap} {Q : Option Value → AHeap → Prop} {l0 l1 l2 l3 l4 l5 l6 l7 l8 l9 l10 : Slot} {rm' : Room} {H' : AHeap} {i : Nat} {vs : List Value} {a0 : Int32} {r : Nat} (hH : H[i]? = some (.inl (0, vs))) (hM : M3 rm' [.ref i, .int a0] H (Is (some (.ref r)) H')) (hr : rok rm rm' 6 S = true) (h : W0 (less rm rm') 215 [l0, l1, l2, l3, l4, l5, l6, l7, l8, l9, l10] (.ref r :: S) H' Q) : W0 rm 212 [l0, l1, l2, l3, l4, l5, l6, l7, l8, l9, l10] (.int a0 :: .ref i :: S) H Q := W.callV (c := 0) (S := S) (as := [.int a0]) (rm' := rm') at_212 (List.mem_of_getElem? (i := 25) rfl) (List.mem_of_getElem? (i := 26) rfl) (List.mem_of_getElem? (i := 28) rfl) (Or.inl rfl) kt (List.mem_of_getElem? (i := 27) rfl) (List.mem_of_getElem? (i := 2) rfl) (List.mem_of_getElem? (i := 29) rfl) (by decide) rfl pd3 rfl rfl hH hM hr (fun _ _ q => by obtain ⟨rfl, rfl⟩ := q; exact h)
theorem s0_212q {rm : Room} {S : List Value} {H : AHeap} {Q : Option Value → AHeap → Prop} {l0 l1 l2 l3 l4 l5 l6 l7 l8 l9 l10 : Slot} {rm' : Room} {Q' : Option Value → AHeap → Prop} {i : Nat} {vs : List Value} {a0 : Value} (hH : H[i]? = some (.inl (0, vs))) (hM : M3 rm' [.ref i, a0] H Q') (hr : rok rm rm' 6 S = true) (h : ∀ v H', Q' v H' → W0 (less rm rm') 215 [l0, l1, l2, l3, l4, l5, l6, l7, l8, l9, l10] (v.toList ++ S) H' Q) : W0 rm 212 [l0, l1, l2, l3, l4, l5, l6, l7, l8, l9, l10] (a0 :: .ref i :: S) H Q := W.callV (c := 0) (S := S) (as := [a0]) (rm' := rm') at_212 (List.mem_of_getElem? (i := 25) rfl) (List.mem_of_getElem? (i := 26) rfl) (List.mem_of_getElem? (i := 28) rfl) (Or.inl rfl) kt (List.mem_of_getElem? (i := 27) rfl) (List.mem_of_getElem? (i := 2) rfl) (List.mem_of_getElem? (i := 29) rfl) (by decide) rfl pd3 rfl rfl hH hM hr h
theorem s0_215 {rm : Room} {S : List Value} {H : AHeap} {Q : Option Value → AHeap → Prop} {l0 l1 l2 l3 l4 l5 l6 l7 l8 l9 l10 : Slot}  (h : W0 rm 216 [l0, l1, l2, l3, l4, l5, l6, l7, l8, l9, l10] (.int 2 :: S) (H) Q) : W0 rm 215 [l0, l1, l2, l3, l4, l5, l6, l7, l8, l9, l10] (S) H Q := W.iconst' at_215 (by decide) h
theorem s0_216 {rm : Room} {S : List Value} {H : AHeap} {Q : Option Value → AHeap → Prop} {l0 l1 l3 l4 l5 l6 l7 l8 l9 l10 : Slot} {x : Int32} (h : W0 rm 217 [l0, l1, .val (.int x), l3, l4, l5, l6, l7, l8, l9, l10] (.int x :: S) (H) Q) : W0 rm 216 [l0, l1, .val (.int x), l3, l4, l5, l6, l7, l8, l9, l10] (S) H Q := W.iload_n at_216 rfl h
theorem s0_217 {rm : Room} {S : List Value} {H : AHeap} {Q : Option Value → AHeap → Prop} {l0 l1 l2 l4 l5 l6 l7 l8 l9 l10 : Slot} {x : Int32} (h : W0 rm 218 [l0, l1, l2, .val (.int x), l4, l5, l6, l7, l8, l9, l10] (.int x :: S) (H) Q) : W0 rm 217 [l0, l1, l2, .val (.int x), l4, l5, l6, l7, l8, l9, l10] (S) H Q := W.iload_n at_217 rfl h
theorem s0_218 {rm : Room} {S : List Value} {H : AHeap} {Q : Option Value → AHeap → Prop} {l0 l1 l2 l3 l5 l6 l7 l8 l9 l10 : Slot} {x : Int32} (h : W0 rm 220 [l0, l1, l2, l3, .val (.int x), l5, l6, l7, l8, l9, l10] (.int x :: S) (H) Q) : W0 rm 218 [l0, l1, l2, l3, .val (.int x), l5, l6, l7, l8, l9, l10] (S) H Q := W.iload at_218 rfl h
theorem s0_220 {rm : Room} {S : List Value} {H : AHeap} {Q : Option Value → AHeap → Prop} {l0 l1 l2 l3 l4 l6 l7 l8 l9 l10 : Slot} {x : Int32} (h : W0 rm 222 [l0, l1, l2, l3, l4, .val (.int x), l6, l7, l8, l9, l10] (.int x :: S) (H) Q) : W0 rm 220 [l0, l1, l2, l3, l4, .val (.int x), l6, l7, l8, l9, l10] (S) H Q := W.iload at_220 rfl h
theorem s0_222 {rm : Room} {S : List Value} {H : AHeap} {Q : Option Value → AHeap → Prop} {l0 l1 l2 l3 l4 l5 l7 l8 l9 l10 : Slot} {x : Int32} (h : W0 rm 224 [l0, l1, l2, l3, l4, l5, .val (.int x), l7, l8, l9, l10] (.int x :: S) (H) Q) : W0 rm 222 [l0, l1, l2, l3, l4, l5, .val (.int x), l7, l8, l9, l10] (S) H Q := W.iload at_222 rfl h
theorem s0_224 {rm : Room} {S : List Value} {H : AHeap} {Q : Option Value → AHeap → Prop} {l0 l1 l2 l3 l4 l5 l6 l8 l9 l10 : Slot} {x : Int32} (h : W0 rm 226 [l0, l1, l2, l3, l4, l5, l6, .val (.int x), l8, l9, l10] (.int x :: S) (H) Q) : W0 rm 224 [l0, l1, l2, l3, l4, l5, l6, .val (.int x), l8, l9, l10] (S) H Q := W.iload at_224 rfl h
theorem s0_226 {rm : Room} {S : List Value} {H : AHeap} {Q : Option Value → AHeap → Prop} {l0 l1 l2 l3 l4 l5 l6 l7 l8 l9 l10 : Slot} {rm' : Room} {H' : AHeap} {a0 : Nat} {a1 : Int32} {a2 : Int32} {a3 : Int32} {a4 : Int32} {a5 : Int32} {a6 : Int32} {a7 : Int32} {r : Int32} (hM : M4 rm' [.ref a0, .int a1, .int a2, .int a3, .int a4, .int a5, .int a6, .int a7] H (Is (some (.int r)) H')) (hr : rok rm rm' 10 S = true) (h : W0 (less rm rm') 229 [l0, l1, l2, l3, l4, l5, l6, l7, l8, l9, l10] (.int r :: S) H' Q) : W0 rm 226 [l0, l1, l2, l3, l4, l5, l6, l7, l8, l9, l10] (.int a7 :: .int a6 :: .int a5 :: .int a4 :: .int a3 :: .int a2 :: .int a1 :: .ref a0 :: S) H Q := W.callS (S := S) (as := [.ref a0, .int a1, .int a2, .int a3, .int a4, .int a5, .int a6, .int a7]) (rm' := rm') at_226 (List.mem_of_getElem? (i := 30) rfl) (List.mem_of_getElem? (i := 31) rfl) (List.mem_of_getElem? (i := 32) rfl) (List.mem_of_getElem? (i := 33) rfl) (by decide) pd4 rfl rfl hM hr (fun _ _ q => by obtain ⟨rfl, rfl⟩ := q; exact h)
theorem s0_226q {rm : Room} {S : List Value} {H : AHeap} {Q : Option Value → AHeap → Prop} {l0 l1 l2 l3 l4 l5 l6 l7 l8 l9 l10 : Slot} {rm' : Room} {Q' : Option Value → AHeap → Prop} {a0 a1 a2 a3 a4 a5 a6 a7 : Value} (hM : M4 rm' [a0, a1, a2, a3, a4, a5, a6, a7] H Q') (hr : rok rm rm' 10 S = true) (h : ∀ v H', Q' v H' → W0 (less rm rm') 229 [l0, l1, l2, l3, l4, l5, l6, l7, l8, l9, l10] (v.toList ++ S) H' Q) : W0 rm 226 [l0, l1, l2, l3, l4, l5, l6, l7, l8, l9, l10] (a7 :: a6 :: a5 :: a4 :: a3 :: a2 :: a1 :: a0 :: S) H Q := W.callS (S := S) (as := [a0, a1, a2, a3, a4, a5, a6, a7]) (rm' := rm') at_226 (List.mem_of_getElem? (i := 30) rfl) (List.mem_of_getElem? (i := 31) rfl) (List.mem_of_getElem? (i := 32) rfl) (List.mem_of_getElem? (i := 33) rfl) (by decide) pd4 rfl rfl hM hr h
theorem s0_229 {rm : Room} {S : List Value} {H : AHeap} {Q : Option Value → AHeap → Prop} {l0 l1 l2 l3 l4 l5 l6 l7 l8 l9 l10 : Slot} {x : Int32} (h1 : x = 0 → W0 rm 236 [l0, l1, l2, l3, l4, l5, l6, l7, l8, l9, l10] S H Q) (h2 : ¬ x = 0 → W0 rm 232 [l0, l1, l2, l3, l4, l5, l6, l7, l8, l9, l10] S H Q) : W0 rm 229 [l0, l1, l2, l3, l4, l5, l6, l7, l8, l9, l10] (.int x :: S) H Q := W.ifc at_229 (by decide) (by decide) h1 h2
theorem s0_232 {rm : Room} {S : List Value} {H : AHeap} {Q : Option Value → AHeap → Prop} {l0 l1 l2 l3 l4 l5 l6 l7 l8 l9 l10 : Slot}  (h : W0 rm 233 [l0, l1, l2, l3, l4, l5, l6, l7, l8, l9, l10] (.int 1 :: S) (H) Q) : W0 rm 232 [l0, l1, l2, l3, l4, l5, l6, l7, l8, l9, l10] (S) H Q := W.iconst' at_232 (by decide) h
theorem s0_233 {rm : Room} {S : List Value} {H : AHeap} {Q : Option Value → AHeap → Prop} {l0 l1 l2 l3 l4 l5 l6 l7 l8 l9 l10 : Slot}  (h : W0 rm 237 [l0, l1, l2, l3, l4, l5, l6, l7, l8, l9, l10] (S) (H) Q) : W0 rm 233 [l0, l1, l2, l3, l4, l5, l6, l7, l8, l9, l10] (S) H Q := W.goto at_233 (by decide) (by decide) h
theorem s0_236 {rm : Room} {S : List Value} {H : AHeap} {Q : Option Value → AHeap → Prop} {l0 l1 l2 l3 l4 l5 l6 l7 l8 l9 l10 : Slot}  (h : W0 rm 237 [l0, l1, l2, l3, l4, l5, l6, l7, l8, l9, l10] (.int 0 :: S) (H) Q) : W0 rm 236 [l0, l1, l2, l3, l4, l5, l6, l7, l8, l9, l10] (S) H Q := W.iconst' at_236 (by decide) h
theorem s0_237 {rm : Room} {S : List Value} {H : AHeap} {Q : Option Value → AHeap → Prop} {l0 l1 l2 l3 l4 l5 l6 l7 l8 l9 l10 : Slot} {x : Int32} (ho : one l9 = true) (h : W0 rm 239 [l0, l1, l2, l3, l4, l5, l6, l7, l8, .val (.int x), l10] (S) (H) Q) : W0 rm 237 [l0, l1, l2, l3, l4, l5, l6, l7, l8, l9, l10] (.int x :: S) H Q := W.istore at_237 rfl ho h
theorem s0_237w {rm : Room} {S : List Value} {H : AHeap} {Q : Option Value → AHeap → Prop} {l0 l1 l2 l3 l4 l5 l6 l7 l8 l10 : Slot} {w : Value} {x : Int32} (ho : w.category = 2) (h : W0 rm 239 [l0, l1, l2, l3, l4, l5, l6, l7, l8, .val (.int x), .unset] (S) (H) Q) : W0 rm 237 [l0, l1, l2, l3, l4, l5, l6, l7, l8, .val w, l10] (.int x :: S) H Q := W.istoreW at_237 rfl ho (Nat.le_of_ble_eq_true rfl) h
theorem s0_237s {rm : Room} {S : List Value} {H : AHeap} {Q : Option Value → AHeap → Prop} {l0 l1 l2 l3 l4 l5 l6 l7 l8 l10 : Slot} {x : Int32} (h : W0 rm 239 [l0, l1, l2, l3, l4, l5, l6, l7, .unset, .val (.int x), l10] (S) (H) Q) : W0 rm 237 [l0, l1, l2, l3, l4, l5, l6, l7, l8, .second, l10] (.int x :: S) H Q := W.istoreS at_237 rfl (by decide) h
theorem s0_239 {rm : Room} {S : List Value} {H : AHeap} {Q : Option Value → AHeap → Prop} {l0 l1 l2 l3 l4 l5 l6 l7 l8 l10 : Slot} {x : Int32} (h : W0 rm 241 [l0, l1, l2, l3, l4, l5, l6, l7, l8, .val (.int x), l10] (.int x :: S) (H) Q) : W0 rm 239 [l0, l1, l2, l3, l4, l5, l6, l7, l8, .val (.int x), l10] (S) H Q := W.iload at_239 rfl h
theorem s0_241 {rm : Room} {S : List Value} {H : AHeap} {Q : Option Value → AHeap → Prop} {l0 l1 l2 l3 l4 l5 l6 l7 l8 l9 l10 : Slot} {x : Int32} (hQ : Q (some (.int (x &&& 1))) H) : W0 rm 241 [l0, l1, l2, l3, l4, l5, l6, l7, l8, l9, l10] (.int x :: S) H Q := W.ireturnZ at_241 rfl hQ
theorem e1 {rm : Room} {H : AHeap} {Q : Option Value → AHeap → Prop} {a0 : Nat} {a1 : Int32} (h : W1 rm 0 [.val (.ref a0), .val (.int a1)] [] H Q) : M1 rm [.ref a0, .int a1] H Q := M.of pf1 rfl rfl h
theorem e1L {rm : Room} {H : AHeap} {Q : Option Value → AHeap → Prop} {L : List Slot} {as : List Value} (h : W1 rm 0 L [] H Q) (hl : ent as ++ List.replicate (2 - (ent as).length) .unset = L := by rfl) (hn : L.length = 2 := by rfl) : M1 rm as H Q := M.of pf1 hl hn h
theorem d1_0 : decode prog_20_method_1_code 0 = .ok (.aload_n 0, 1) := by decide +kernel
theorem s1_0 {rm : Room} {S : List Value} {H : AHeap} {Q : Option Value → AHeap → Prop} {l1 : Slot} {i : Nat} (h : W1 rm 1 [.val (.ref i), l1] (.ref i :: S) (H) Q) : W1 rm 0 [.val (.ref i), l1] (S) H Q := W.aload_n d1_0 rfl rfl h
theorem s1_0n {rm : Room} {S : List Value} {H : AHeap} {Q : Option Value → AHeap → Prop} {l1 : Slot}  (h : W1 rm 1 [.val .null, l1] (.null :: S) (H) Q) : W1 rm 0 [.val .null, l1] (S) H Q := W.aload_n d1_0 rfl rfl h
theorem d1_1 : decode prog_20_method_1_code 1 = .ok (.invokespecial 1, 3) := by decide +kernel
theorem s1_1 {rm : Room} {S : List Value} {H : AHeap} {Q : Option Value → AHeap → Prop} {l0 l1 : Slot} {i : Nat} (hr : iok rm S = true) (h : W1 rm 4 [l0, l1] (S) (H) Q) : W1 rm 1 [l0, l1] (.ref i :: S) H Q := W.initO d1_1 (List.mem_of_getElem? (i := 6) rfl) (List.mem_of_getElem? (i := 7) rfl) (List.mem_of_getElem? (i := 8) rfl) hr h
theorem d1_4 : decode prog_20_method_1_code 4 = .ok (.aload_n 0, 1) := by decide +kernel
theorem s1_4 {rm : Room} {S : List Value} {H : AHeap} {Q : Option Value → AHeap → Prop} {l1 : Slot} {i : Nat} (h : W1 rm 5 [.val (.ref i), l1] (.ref i :: S) (H) Q) : W1 rm 4 [.val (.ref i), l1] (S) H Q := W.aload_n d1_4 rfl rfl h
theorem s1_4n {rm : Room} {S : List Value} {H : AHeap} {Q : Option Value → AHeap → Prop} {l1 : Slot}  (h : W1 rm 5 [.val .null, l1] (.null :: S) (H) Q) : W1 rm 4 [.val .null, l1] (S) H Q := W.aload_n d1_4 rfl rfl h
theorem d1_5 : decode prog_20_method_1_code 5 = .ok (.bipush 16, 2) := by decide +kernel
theorem s1_5 {rm : Room} {S : List Value} {H : AHeap} {Q : Option Value → AHeap → Prop} {l0 l1 : Slot}  (h : W1 rm 7 [l0, l1] (.int 16 :: S) (H) Q) : W1 rm 5 [l0, l1] (S) H Q := W.bipush' d1_5 (by decide) h
theorem d1_7 : decode prog_20_method_1_code 7 = .ok (.newarray .int, 2) := by decide +kernel
theorem s1_7 {rm : Room} {S : List Value} {H : AHeap} {Q : Option Value → AHeap → Prop} {l0 l1 : Slot} {n : Int32} (i N : Nat) (hn : ix n N) (hi : H.length = i) (hr : nok rm N = true) (h : W1 ⟨rm.frames, rm.cells - 1, rm.slots - N, rm.locals⟩ 9 [l0, l1] (.ref i :: S) (H ++ [.inr (.int, List.replicate N (.int 0))]) Q) : W1 rm 7 [l0, l1] (.int n :: S) H Q := W.newarray (ty := .int) (d := .int 0) d1_7 rfl (List.mem_of_getElem? (i := 9) rfl) rfl hn hi hr h
theorem d1_9 : decode prog_20_method_1_code 9 = .ok (.putfield 9, 3) := by decide +kernel
theorem s1_9 {rm : Room} {S : List Value} {H : AHeap} {Q : Option Value → AHeap → Prop} {l0 l1 : Slot} {i : Nat} {f0 f1 f2 f3 f4 : Value} {x : Nat} (hH : H[i]? = some (.inl (0, [f0, f1, f2, f3, f4]))) (h : W1 rm 12 [l0, l1] (S) (H.set i (.inl (0, [.ref x, f1, f2, f3, f4]))) Q) : W1 rm 9 [l0, l1] (.ref x :: .ref i :: S) H Q := W.putF (c := 0) (j := 0) kt d1_9 (host := "") (Or.inl (List.mem_of_getElem? (i := 10) rfl)) (Or.inl rfl) rfl rfl (Or.inl (List.mem_of_getElem? (i := 11) rfl)) rfl rfl hH h
theorem d1_12 : decode prog_20_method_1_code 12 = .ok (.aload_n 0, 1) := by decide +kernel
theorem s1_12 {rm : Room} {S : List Value} {H : AHeap} {Q : Option Value → AHeap → Prop} {l1 : Slot} {i : Nat} (h : W1 rm 13 [.val (.ref i), l1] (.ref i :: S) (H) Q) : W1 rm 12 [.val (.ref i), l1] (S) H Q := W.aload_n d1_12 rfl rfl h
theorem s1_12n {rm : Room} {S : List Value} {H : AHeap} {Q : Option Value → AHeap → Prop} {l1 : Slot}  (h : W1 rm 13 [.val .null, l1] (.null :: S) (H) Q) : W1 rm 12 [.val .null, l1] (S) H Q := W.aload_n d1_12 rfl rfl h
theorem d1_13 : decode prog_20_method_1_code 13 = .ok (.bipush 16, 2) := by decide +kernel
theorem s1_13 {rm : Room} {S : List Value} {H : AHeap} {Q : Option Value → AHeap → Prop} {l0 l1 : Slot}  (h : W1 rm 15 [l0, l1] (.int 16 :: S) (H) Q) : W1 rm 13 [l0, l1] (S) H Q := W.bipush' d1_13 (by decide) h
theorem d1_15 : decode prog_20_method_1_code 15 = .ok (.newarray .int, 2) := by decide +kernel
theorem s1_15 {rm : Room} {S : List Value} {H : AHeap} {Q : Option Value → AHeap → Prop} {l0 l1 : Slot} {n : Int32} (i N : Nat) (hn : ix n N) (hi : H.length = i) (hr : nok rm N = true) (h : W1 ⟨rm.frames, rm.cells - 1, rm.slots - N, rm.locals⟩ 17 [l0, l1] (.ref i :: S) (H ++ [.inr (.int, List.replicate N (.int 0))]) Q) : W1 rm 15 [l0, l1] (.int n :: S) H Q := W.newarray (ty := .int) (d := .int 0) d1_15 rfl (List.mem_of_getElem? (i := 9) rfl) rfl hn hi hr h
theorem d1_17 : decode prog_20_method_1_code 17 = .ok (.putfield 13, 3) := by decide +kernel
theorem s1_17 {rm : Room} {S : List Value} {H : AHeap} {Q : Option Value → AHeap → Prop} {l0 l1 : Slot} {i : Nat} {f0 f1 f2 f3 f4 : Value} {x : Nat} (hH : H[i]? = some (.inl (0, [f0, f1, f2, f3, f4]))) (h : W1 rm 20 [l0, l1] (S) (H.set i (.inl (0, [f0, .ref x, f2, f3, f4]))) Q) : W1 rm 17 [l0, l1] (.ref x :: .ref i :: S) H Q := W.putF (c := 0) (j := 1) kt d1_17 (host := "") (Or.inl (List.mem_of_getElem? (i := 12) rfl)) (Or.inl rfl) rfl rfl (Or.inl (List.mem_of_getElem? (i := 13) rfl)) rfl rfl hH h
theorem d1_20 : decode prog_20_method_1_code 20 = .ok (.aload_n 0, 1) := by decide +kernel
theorem s1_20 {rm : Room} {S : List Value} {H : AHeap} {Q : Option Value → AHeap → Prop} {l1 : Slot} {i : Nat} (h : W1 rm 21 [.val (.ref i), l1] (.ref i :: S) (H) Q) : W1 rm 20 [.val (.ref i), l1] (S) H Q := W.aload_n d1_20 rfl rfl h
theorem s1_20n {rm : Room} {S : List Value} {H : AHeap} {Q : Option Value → AHeap → Prop} {l1 : Slot}  (h : W1 rm 21 [.val .null, l1] (.null :: S) (H) Q) : W1 rm 20 [.val .null, l1] (S) H Q := W.aload_n d1_20 rfl rfl h
theorem d1_21 : decode prog_20_method_1_code 21 = .ok (.iload_n 1, 1) := by decide +kernel
theorem s1_21 {rm : Room} {S : List Value} {H : AHeap} {Q : Option Value → AHeap → Prop} {l0 : Slot} {x : Int32} (h : W1 rm 22 [l0, .val (.int x)] (.int x :: S) (H) Q) : W1 rm 21 [l0, .val (.int x)] (S) H Q := W.iload_n d1_21 rfl h
theorem d1_22 : decode prog_20_method_1_code 22 = .ok (.iconst 1, 1) := by decide +kernel
theorem s1_22 {rm : Room} {S : List Value} {H : AHeap} {Q : Option Value → AHeap → Prop} {l0 l1 : Slot}  (h : W1 rm 23 [l0, l1] (.int 1 :: S) (H) Q) : W1 rm 22 [l0, l1] (S) H Q := W.iconst' d1_22 (by decide) h
theorem d1_23 : decode prog_20_method_1_code 23 = .ok (.iadd, 1) := by decide +kernel
theorem s1_23 {rm : Room} {S : List Value} {H : AHeap} {Q : Option Value → AHeap → Prop} {l0 l1 : Slot} {x y : Int32} (h : W1 rm 24 [l0, l1] (.int (x + y) :: S) (H) Q) : W1 rm 23 [l0, l1] (.int y :: .int x :: S) H Q := W.iadd d1_23 h
theorem d1_24 : decode prog_20_method_1_code 24 = .ok (.newarray .int, 2) := by decide +kernel
theorem s1_24 {rm : Room} {S : List Value} {H : AHeap} {Q : Option Value → AHeap → Prop} {l0 l1 : Slot} {n : Int32} (i N : Nat) (hn : ix n N) (hi : H.length = i) (hr : nok rm N = true) (h : W1 ⟨rm.frames, rm.cells - 1, rm.slots - N, rm.locals⟩ 26 [l0, l1] (.ref i :: S) (H ++ [.inr (.int, List.replicate N (.int 0))]) Q) : W1 rm 24 [l0, l1] (.int n :: S) H Q := W.newarray (ty := .int) (d := .int 0) d1_24 rfl (List.mem_of_getElem? (i := 9) rfl) rfl hn hi hr h
theorem d1_26 : decode prog_20_method_1_code 26 = .ok (.putfield 16, 3) := by decide +kernel
theorem s1_26 {rm : Room} {S : List Value} {H : AHeap} {Q : Option Value → AHeap → Prop} {l0 l1 : Slot} {i : Nat} {f0 f1 f2 f3 f4 : Value} {x : Nat} (hH : H[i]? = some (.inl (0, [f0, f1, f2, f3, f4]))) (h : W1 rm 29 [l0, l1] (S) (H.set i (.inl (0, [f0, f1, .ref x, f3, f4]))) Q) : W1 rm 26 [l0, l1] (.ref x :: .ref i :: S) H Q := W.putF (c := 0) (j := 2) kt d1_26 (host := "") (Or.inl (List.mem_of_getElem? (i := 14) rfl)) (Or.inl rfl) rfl rfl (Or.inr ⟨(List.mem_of_getElem? (i := 15) rfl), rfl, rfl⟩) rfl rfl hH h
theorem d1_29 : decode prog_20_method_1_code 29 = .ok (.aload_n 0, 1) := by decide +kernel
theorem s1_29 {rm : Room} {S : List Value} {H : AHeap} {Q : Option Value → AHeap → Prop} {l1 : Slot} {i : Nat} (h : W1 rm 30 [.val (.ref i), l1] (.ref i :: S) (H) Q) : W1 rm 29 [.val (.ref i), l1] (S) H Q := W.aload_n d1_29 rfl rfl h
theorem s1_29n {rm : Room} {S : List Value} {H : AHeap} {Q : Option Value → AHeap → Prop} {l1 : Slot}  (h : W1 rm 30 [.val .null, l1] (.null :: S) (H) Q) : W1 rm 29 [.val .null, l1] (S) H Q := W.aload_n d1_29 rfl rfl h
theorem d1_30 : decode prog_20_method_1_code 30 = .ok (.iload_n 1, 1) := by decide +kernel
theorem s1_30 {rm : Room} {S : List Value} {H : AHeap} {Q : Option Value → AHeap → Prop} {l0 : Slot} {x : Int32} (h : W1 rm 31 [l0, .val (.int x)] (.int x :: S) (H) Q) : W1 rm 30 [l0, .val (.int x)] (S) H Q := W.iload_n d1_30 rfl h
theorem d1_31 : decode prog_20_method_1_code 31 = .ok (.iconst 1, 1) := by decide +kernel
theorem s1_31 {rm : Room} {S : List Value} {H : AHeap} {Q : Option Value → AHeap → Prop} {l0 l1 : Slot}  (h : W1 rm 32 [l0, l1] (.int 1 :: S) (H) Q) : W1 rm 31 [l0, l1] (S) H Q := W.iconst' d1_31 (by decide) h
theorem d1_32 : decode prog_20_method_1_code 32 = .ok (.iadd, 1) := by decide +kernel
theorem s1_32 {rm : Room} {S : List Value} {H : AHeap} {Q : Option Value → AHeap → Prop} {l0 l1 : Slot} {x y : Int32} (h : W1 rm 33 [l0, l1] (.int (x + y) :: S) (H) Q) : W1 rm 32 [l0, l1] (.int y :: .int x :: S) H Q := W.iadd d1_32 h
theorem d1_33 : decode prog_20_method_1_code 33 = .ok (.newarray .int, 2) := by decide +kernel
theorem s1_33 {rm : Room} {S : List Value} {H : AHeap} {Q : Option Value → AHeap → Prop} {l0 l1 : Slot} {n : Int32} (i N : Nat) (hn : ix n N) (hi : H.length = i) (hr : nok rm N = true) (h : W1 ⟨rm.frames, rm.cells - 1, rm.slots - N, rm.locals⟩ 35 [l0, l1] (.ref i :: S) (H ++ [.inr (.int, List.replicate N (.int 0))]) Q) : W1 rm 33 [l0, l1] (.int n :: S) H Q := W.newarray (ty := .int) (d := .int 0) d1_33 rfl (List.mem_of_getElem? (i := 9) rfl) rfl hn hi hr h
theorem d1_35 : decode prog_20_method_1_code 35 = .ok (.putfield 19, 3) := by decide +kernel
theorem s1_35 {rm : Room} {S : List Value} {H : AHeap} {Q : Option Value → AHeap → Prop} {l0 l1 : Slot} {i : Nat} {f0 f1 f2 f3 f4 : Value} {x : Nat} (hH : H[i]? = some (.inl (0, [f0, f1, f2, f3, f4]))) (h : W1 rm 38 [l0, l1] (S) (H.set i (.inl (0, [f0, f1, f2, .ref x, f4]))) Q) : W1 rm 35 [l0, l1] (.ref x :: .ref i :: S) H Q := W.putF (c := 0) (j := 3) kt d1_35 (host := "") (Or.inl (List.mem_of_getElem? (i := 16) rfl)) (Or.inl rfl) rfl rfl (Or.inr ⟨(List.mem_of_getElem? (i := 17) rfl), rfl, rfl⟩) rfl rfl hH h
theorem d1_38 : decode prog_20_method_1_code 38 = .ok (.aload_n 0, 1) := by decide +kernel
theorem s1_38 {rm : Room} {S : List Value} {H : AHeap} {Q : Option Value → AHeap → Prop} {l1 : Slot} {i : Nat} (h : W1 rm 39 [.val (.ref i), l1] (.ref i :: S) (H) Q) : W1 rm 38 [.val (.ref i), l1] (S) H Q := W.aload_n d1_38 rfl rfl h
theorem s1_38n {rm : Room} {S : List Value} {H : AHeap} {Q : Option Value → AHeap → Prop} {l1 : Slot}  (h : W1 rm 39 [.val .null, l1] (.null :: S) (H) Q) : W1 rm 38 [.val .null, l1] (S) H Q := W.aload_n d1_38 rfl rfl h
theorem d1_39 : decode prog_20_method_1_code 39 = .ok (.iload_n 1, 1) := by decide +kernel
theorem s1_39 {rm : Room} {S : List Value} {H : AHeap} {Q : Option Value → AHeap → Prop} {l0 : Slot} {x : Int32} (h : W1 rm 40 [l0, .val (.int x)] (.int x :: S) (H) Q) : W1 rm 39 [l0, .val (.int x)] (S) H Q := W.iload_n d1_39 rfl h
theorem d1_40 : decode prog_20_method_1_code 40 = .ok (.iconst 1, 1) := by decide +kernel
theorem s1_40 {rm : Room} {S : List Value} {H : AHeap} {Q : Option Value → AHeap → Prop} {l0 l1 : Slot}  (h : W1 rm 41 [l0, l1] (.int 1 :: S) (H) Q) : W1 rm 40 [l0, l1] (S) H Q := W.iconst' d1_40 (by decide) h
theorem d1_41 : decode prog_20_method_1_code 41 = .ok (.iadd, 1) := by decide +kernel
theorem s1_41 {rm : Room} {S : List Value} {H : AHeap} {Q : Option Value → AHeap → Prop} {l0 l1 : Slot} {x y : Int32} (h : W1 rm 42 [l0, l1] (.int (x + y) :: S) (H) Q) : W1 rm 41 [l0, l1] (.int y :: .int x :: S) H Q := W.iadd d1_41 h
theorem d1_42 : decode prog_20_method_1_code 42 = .ok (.newarray .int, 2) := by decide +kernel
theorem s1_42 {rm : Room} {S : List Value} {H : AHeap} {Q : Option Value → AHeap → Prop} {l0 l1 : Slot} {n : Int32} (i N : Nat) (hn : ix n N) (hi : H.length = i) (hr : nok rm N = true) (h : W1 ⟨rm.frames, rm.cells - 1, rm.slots - N, rm.locals⟩ 44 [l0, l1] (.ref i :: S) (H ++ [.inr (.int, List.replicate N (.int 0))]) Q) : W1 rm 42 [l0, l1] (.int n :: S) H Q := W.newarray (ty := .int) (d := .int 0) d1_42 rfl (List.mem_of_getElem? (i := 9) rfl) rfl hn hi hr h
theorem d1_44 : decode prog_20_method_1_code 44 = .ok (.putfield 22, 3) := by decide +kernel
theorem s1_44 {rm : Room} {S : List Value} {H : AHeap} {Q : Option Value → AHeap → Prop} {l0 l1 : Slot} {i : Nat} {f0 f1 f2 f3 f4 : Value} {x : Nat} (hH : H[i]? = some (.inl (0, [f0, f1, f2, f3, f4]))) (h : W1 rm 47 [l0, l1] (S) (H.set i (.inl (0, [f0, f1, f2, f3, .ref x]))) Q) : W1 rm 44 [l0, l1] (.ref x :: .ref i :: S) H Q := W.putF (c := 0) (j := 4) kt d1_44 (host := "") (Or.inl (List.mem_of_getElem? (i := 18) rfl)) (Or.inl rfl) rfl rfl (Or.inr ⟨(List.mem_of_getElem? (i := 19) rfl), rfl, rfl⟩) rfl rfl hH h
theorem d1_47 : decode prog_20_method_1_code 47 = .ok (.return_, 1) := by decide +kernel
theorem s1_47 {rm : Room} {H : AHeap} {Q : Option Value → AHeap → Prop} {l0 l1 : Slot} (hQ : Q none H) : W1 rm 47 [l0, l1] [] H Q := W.ret_ d1_47 rfl hQ
theorem e2 {rm : Room} {H : AHeap} {Q : Option Value → AHeap → Prop} {a0 : Nat} {a1 : Int32} {a2 : Int32} (h : W2 rm 0 [.val (.ref a0), .val (.int a1), .val (.int a2)] [] H Q) : M2 rm [.ref a0, .int a1, .int a2] H Q := M.of pf2 rfl rfl h
theorem e2L {rm : Room} {H : AHeap} {Q : Option Value → AHeap → Prop} {L : List Slot} {as : List Value} (h : W2 rm 0 L [] H Q) (hl : ent as ++ List.replicate (3 - (ent as).length) .unset = L := by rfl) (hn : L.length = 3 := by rfl) : M2 rm as H Q := M.of pf2 hl hn h
theorem d2_0 : decode prog_20_method_3_code 0 = .ok (.iload_n 2, 1) := by decide +kernel
theorem s2_0 {rm : Room} {S : List Value} {H : AHeap} {Q : Option Value → AHeap → Prop} {l0 l1 : Slot} {x : Int32} (h : W2 rm 1 [l0, l1, .val (.int x)] (.int x :: S) (H) Q) : W2 rm 0 [l0, l1, .val (.int x)] (S) H Q := W.iload_n d2_0 rfl h
theorem d2_1 : decode prog_20_method_3_code 1 = .ok (.aload_n 0, 1) := by decide +kernel
theorem s2_1 {rm : Room} {S : List Value} {H : AHeap} {Q : Option Value → AHeap → Prop} {l1 l2 : Slot} {i : Nat} (h : W2 rm 2 [.val (.ref i), l1, l2] (.ref i :: S) (H) Q) : W2 rm 1 [.val (.ref i), l1, l2] (S) H Q := W.aload_n d2_1 rfl rfl h
theorem s2_1n {rm : Room} {S : List Value} {H : AHeap} {Q : Option Value → AHeap → Prop} {l1 l2 : Slot}  (h : W2 rm 2 [.val .null, l1, l2] (.null :: S) (H) Q) : W2 rm 1 [.val .null, l1, l2] (S) H Q := W.aload_n d2_1 rfl rfl h
theorem d2_2 : decode prog_20_method_3_code 2 = .ok (.getfield 9, 3) := by decide +kernel
theorem s2_2 {rm : Room} {S : List Value} {H : AHeap} {Q : Option Value → AHeap → Prop} {l0 l1 l2 : Slot} {i : Nat} {f0 f1 f2 f3 f4 : Value} (hH : H[i]? = some (.inl (0, [f0, f1, f2, f3, f4]))) (h : W2 rm 5 [l0, l1, l2] (f0 :: S) (H) Q) : W2 rm 2 [l0, l1, l2] (.ref i :: S) H Q := W.getF (c := 0) (j := 0) d2_2 (host := "") (Or.inl (List.mem_of_getElem? (i := 10) rfl)) (Or.inl rfl) rfl rfl hH rfl h
theorem d2_5 : decode prog_20_method_3_code 5 = .ok (.arraylength, 1) := by decide +kernel
theorem s2_5 {rm : Room} {S : List Value} {H : AHeap} {Q : Option Value → AHeap → Prop} {l0 l1 l2 : Slot} {i : Nat} {ty : FieldType} {vs : List Value} (hH : H[i]? = some (.inr (ty, vs))) (h : W2 rm 6 [l0, l1, l2] (.int (Int32.ofNat vs.length) :: S) (H) Q) : W2 rm 5 [l0, l1, l2] (.ref i :: S) H Q := W.arraylength d2_5 hH h
theorem s2_5k {rm : Room} {S : List Value} {H : AHeap} {Q : Option Value → AHeap → Prop} {l0 l1 l2 : Slot} {i : Nat} {ty : FieldType} {vs : List Value} (n : Int32) (hH : H[i]? = some (.inr (ty, vs))) (hn : Int32.ofNat vs.length = n) (h : W2 rm 6 [l0, l1, l2] (.int n :: S) (H) Q) : W2 rm 5 [l0, l1, l2] (.ref i :: S) H Q := W.arraylength d2_5 hH (by rw [hn]; exact h)
theorem d2_6 : decode prog_20_method_3_code 6 = .ok (.if_icmp .ne 39, 3) := by decide +kernel
theorem s2_6 {rm : Room} {S : List Value} {H : AHeap} {Q : Option Value → AHeap → Prop} {l0 l1 l2 : Slot} {x y : Int32} (h1 : ¬ x = y → W2 rm 45 [l0, l1, l2] S H Q) (h2 : x = y → W2 rm 9 [l0, l1, l2] S H Q) : W2 rm 6 [l0, l1, l2] (.int y :: .int x :: S) H Q := W.icmp d2_6 (by decide) (by decide) h1 h2
theorem d2_9 : decode prog_20_method_3_code 9 = .ok (.aload_n 0, 1) := by decide +kernel
theorem s2_9 {rm : Room} {S : List Value} {H : AHeap} {Q : Option Value → AHeap → Prop} {l1 l2 : Slot} {i : Nat} (h : W2 rm 10 [.val (.ref i), l1, l2] (.ref i :: S) (H) Q) : W2 rm 9 [.val (.ref i), l1, l2] (S) H Q := W.aload_n d2_9 rfl rfl h
theorem s2_9n {rm : Room} {S : List Value} {H : AHeap} {Q : Option Value → AHeap → Prop} {l1 l2 : Slot}  (h : W2 rm 10 [.val .null, l1, l2] (.null :: S) (H) Q) : W2 rm 9 [.val .null, l1, l2] (S) H Q := W.aload_n d2_9 rfl rfl h
theorem d2_10 : decode prog_20_method_3_code 10 = .ok (.aload_n 0, 1) := by decide +kernel
theorem s2_10 {rm : Room} {S : List Value} {H : AHeap} {Q : Option Value → AHeap → Prop} {l1 l2 : Slot} {i : Nat} (h : W2 rm 11 [.val (.ref i), l1, l2] (.ref i :: S) (H) Q) : W2 rm 10 [.val (.ref i), l1, l2] (S) H Q := W.aload_n d2_10 rfl rfl h
theorem s2_10n {rm : Room} {S : List Value} {H : AHeap} {Q : Option Value → AHeap → Prop} {l1 l2 : Slot}  (h : W2 rm 11 [.val .null, l1, l2] (.null :: S) (H) Q) : W2 rm 10 [.val .null, l1, l2] (S) H Q := W.aload_n d2_10 rfl rfl h
theorem d2_11 : decode prog_20_method_3_code 11 = .ok (.getfield 9, 3) := by decide +kernel
theorem s2_11 {rm : Room} {S : List Value} {H : AHeap} {Q : Option Value → AHeap → Prop} {l0 l1 l2 : Slot} {i : Nat} {f0 f1 f2 f3 f4 : Value} (hH : H[i]? = some (.inl (0, [f0, f1, f2, f3, f4]))) (h : W2 rm 14 [l0, l1, l2] (f0 :: S) (H) Q) : W2 rm 11 [l0, l1, l2] (.ref i :: S) H Q := W.getF (c := 0) (j := 0) d2_11 (host := "") (Or.inl (List.mem_of_getElem? (i := 10) rfl)) (Or.inl rfl) rfl rfl hH rfl h
theorem d2_14 : decode prog_20_method_3_code 14 = .ok (.iconst 2, 1) := by decide +kernel
theorem s2_14 {rm : Room} {S : List Value} {H : AHeap} {Q : Option Value → AHeap → Prop} {l0 l1 l2 : Slot}  (h : W2 rm 15 [l0, l1, l2] (.int 2 :: S) (H) Q) : W2 rm 14 [l0, l1, l2] (S) H Q := W.iconst' d2_14 (by decide) h
theorem d2_15 : decode prog_20_method_3_code 15 = .ok (.aload_n 0, 1) := by decide +kernel
theorem s2_15 {rm : Room} {S : List Value} {H : AHeap} {Q : Option Value → AHeap → Prop} {l1 l2 : Slot} {i : Nat} (h : W2 rm 16 [.val (.ref i), l1, l2] (.ref i :: S) (H) Q) : W2 rm 15 [.val (.ref i), l1, l2] (S) H Q := W.aload_n d2_15 rfl rfl h
theorem s2_15n {rm : Room} {S : List Value} {H : AHeap} {Q : Option Value → AHeap → Prop} {l1 l2 : Slot}  (h : W2 rm 16 [.val .null, l1, l2] (.null :: S) (H) Q) : W2 rm 15 [.val .null, l1, l2] (S) H Q := W.aload_n d2_15 rfl rfl h
theorem d2_16 : decode prog_20_method_3_code 16 = .ok (.getfield 9, 3) := by decide +kernel
theorem s2_16 {rm : Room} {S : List Value} {H : AHeap} {Q : Option Value → AHeap → Prop} {l0 l1 l2 : Slot} {i : Nat} {f0 f1 f2 f3 f4 : Value} (hH : H[i]? = some (.inl (0, [f0, f1, f2, f3, f4]))) (h : W2 rm 19 [l0, l1, l2] (f0 :: S) (H) Q) : W2 rm 16 [l0, l1, l2] (.ref i :: S) H Q := W.getF (c := 0) (j := 0) d2_16 (host := "") (Or.inl (List.mem_of_getElem? (i := 10) rfl)) (Or.inl rfl) rfl rfl hH rfl h
theorem d2_19 : decode prog_20_method_3_code 19 = .ok (.arraylength, 1) := by decide +kernel
theorem s2_19 {rm : Room} {S : List Value} {H : AHeap} {Q : Option Value → AHeap → Prop} {l0 l1 l2 : Slot} {i : Nat} {ty : FieldType} {vs : List Value} (hH : H[i]? = some (.inr (ty, vs))) (h : W2 rm 20 [l0, l1, l2] (.int (Int32.ofNat vs.length) :: S) (H) Q) : W2 rm 19 [l0, l1, l2] (.ref i :: S) H Q := W.arraylength d2_19 hH h
theorem s2_19k {rm : Room} {S : List Value} {H : AHeap} {Q : Option Value → AHeap → Prop} {l0 l1 l2 : Slot} {i : Nat} {ty : FieldType} {vs : List Value} (n : Int32) (hH : H[i]? = some (.inr (ty, vs))) (hn : Int32.ofNat vs.length = n) (h : W2 rm 20 [l0, l1, l2] (.int n :: S) (H) Q) : W2 rm 19 [l0, l1, l2] (.ref i :: S) H Q := W.arraylength d2_19 hH (by rw [hn]; exact h)
theorem d2_20 : decode prog_20_method_3_code 20 = .ok (.imul, 1) := by decide +kernel
theorem s2_20 {rm : Room} {S : List Value} {H : AHeap} {Q : Option Value → AHeap → Prop} {l0 l1 l2 : Slot} {x y : Int32} (h : W2 rm 21 [l0, l1, l2] (.int (x * y) :: S) (H) Q) : W2 rm 20 [l0, l1, l2] (.int y :: .int x :: S) H Q := W.imul d2_20 h
theorem d2_21 : decode prog_20_method_3_code 21 = .ok (.invokestatic 25, 3) := by decide +kernel
theorem d2_24 : decode prog_20_method_3_code 24 = .ok (.putfield 9, 3) := by decide +kernel
theorem s2_24 {rm : Room} {S : List Value} {H : AHeap} {Q : Option Value → AHeap → Prop} {l0 l1 l2 : Slot} {i : Nat} {f0 f1 f2 f3 f4 : Value} {x : Nat} (hH : H[i]? = some (.inl (0, [f0, f1, f2, f3, f4]))) (h : W2 rm 27 [l0, l1, l2] (S) (H.set i (.inl (0, [.ref x, f1, f2, f3, f4]))) Q) : W2 rm 24 [l0, l1, l2] (.ref x :: .ref i :: S) H Q := W.putF (c := 0) (j := 0) kt d2_24 (host := "") (Or.inl (List.mem_of_getElem? (i := 10) rfl)) (Or.inl rfl) rfl rfl (Or.inl (List.mem_of_getElem? (i := 11) rfl)) rfl rfl hH h
theorem d2_27 : decode prog_20_method_3_code 27 = .ok (.aload_n 0, 1) := by decide +kernel
theorem s2_27 {rm : Room} {S : List Value} {H : AHeap} {Q : Option Value → AHeap → Prop} {l1 l2 : Slot} {i : Nat} (h : W2 rm 28 [.val (.ref i), l1, l2] (.ref i :: S) (H) Q) : W2 rm 27 [.val (.ref i), l1, l2] (S) H Q := W.aload_n d2_27 rfl rfl h
theorem s2_27n {rm : Room} {S : List Value} {H : AHeap} {Q : Option Value → AHeap → Prop} {l1 l2 : Slot}  (h : W2 rm 28 [.val .null, l1, l2] (.null :: S) (H) Q) : W2 rm 27 [.val .null, l1, l2] (S) H Q := W.aload_n d2_27 rfl rfl h
theorem d2_28 : decode prog_20_method_3_code 28 = .ok (.aload_n 0, 1) := by decide +kernel
theorem s2_28 {rm : Room} {S : List Value} {H : AHeap} {Q : Option Value → AHeap → Prop} {l1 l2 : Slot} {i : Nat} (h : W2 rm 29 [.val (.ref i), l1, l2] (.ref i :: S) (H) Q) : W2 rm 28 [.val (.ref i), l1, l2] (S) H Q := W.aload_n d2_28 rfl rfl h
theorem s2_28n {rm : Room} {S : List Value} {H : AHeap} {Q : Option Value → AHeap → Prop} {l1 l2 : Slot}  (h : W2 rm 29 [.val .null, l1, l2] (.null :: S) (H) Q) : W2 rm 28 [.val .null, l1, l2] (S) H Q := W.aload_n d2_28 rfl rfl h
theorem d2_29 : decode prog_20_method_3_code 29 = .ok (.getfield 13, 3) := by decide +kernel
theorem s2_29 {rm : Room} {S : List Value} {H : AHeap} {Q : Option Value → AHeap → Prop} {l0 l1 l2 : Slot} {i : Nat} {f0 f1 f2 f3 f4 : Value} (hH : H[i]? = some (.inl (0, [f0, f1, f2, f3, f4]))) (h : W2 rm 32 [l0, l1, l2] (f1 :: S) (H) Q) : W2 rm 29 [l0, l1, l2] (.ref i :: S) H Q := W.getF (c := 0) (j := 1) d2_29 (host := "") (Or.inl (List.mem_of_getElem? (i := 12) rfl)) (Or.inl rfl) rfl rfl hH rfl h
theorem d2_32 : decode prog_20_method_3_code 32 = .ok (.iconst 2, 1) := by decide +kernel
theorem s2_32 {rm : Room} {S : List Value} {H : AHeap} {Q : Option Value → AHeap → Prop} {l0 l1 l2 : Slot}  (h : W2 rm 33 [l0, l1, l2] (.int 2 :: S) (H) Q) : W2 rm 32 [l0, l1, l2] (S) H Q := W.iconst' d2_32 (by decide) h
theorem d2_33 : decode prog_20_method_3_code 33 = .ok (.aload_n 0, 1) := by decide +kernel
theorem s2_33 {rm : Room} {S : List Value} {H : AHeap} {Q : Option Value → AHeap → Prop} {l1 l2 : Slot} {i : Nat} (h : W2 rm 34 [.val (.ref i), l1, l2] (.ref i :: S) (H) Q) : W2 rm 33 [.val (.ref i), l1, l2] (S) H Q := W.aload_n d2_33 rfl rfl h
theorem s2_33n {rm : Room} {S : List Value} {H : AHeap} {Q : Option Value → AHeap → Prop} {l1 l2 : Slot}  (h : W2 rm 34 [.val .null, l1, l2] (.null :: S) (H) Q) : W2 rm 33 [.val .null, l1, l2] (S) H Q := W.aload_n d2_33 rfl rfl h
theorem d2_34 : decode prog_20_method_3_code 34 = .ok (.getfield 13, 3) := by decide +kernel
theorem s2_34 {rm : Room} {S : List Value} {H : AHeap} {Q : Option Value → AHeap → Prop} {l0 l1 l2 : Slot} {i : Nat} {f0 f1 f2 f3 f4 : Value} (hH : H[i]? = some (.inl (0, [f0, f1, f2, f3, f4]))) (h : W2 rm 37 [l0, l1, l2] (f1 :: S) (H) Q) : W2 rm 34 [l0, l1, l2] (.ref i :: S) H Q := W.getF (c := 0) (j := 1) d2_34 (host := "") (Or.inl (List.mem_of_getElem? (i := 12) rfl)) (Or.inl rfl) rfl rfl hH rfl h
theorem d2_37 : decode prog_20_method_3_code 37 = .ok (.arraylength, 1) := by decide +kernel
theorem s2_37 {rm : Room} {S : List Value} {H : AHeap} {Q : Option Value → AHeap → Prop} {l0 l1 l2 : Slot} {i : Nat} {ty : FieldType} {vs : List Value} (hH : H[i]? = some (.inr (ty, vs))) (h : W2 rm 38 [l0, l1, l2] (.int (Int32.ofNat vs.length) :: S) (H) Q) : W2 rm 37 [l0, l1, l2] (.ref i :: S) H Q := W.arraylength d2_37 hH h
theorem s2_37k {rm : Room} {S : List Value} {H : AHeap} {Q : Option Value → AHeap → Prop} {l0 l1 l2 : Slot} {i : Nat} {ty : FieldType} {vs : List Value} (n : Int32) (hH : H[i]? = some (.inr (ty, vs))) (hn : Int32.ofNat vs.length = n) (h : W2 rm 38 [l0, l1, l2] (.int n :: S) (H) Q) : W2 rm 37 [l0, l1, l2] (.ref i :: S) H Q := W.arraylength d2_37 hH (by rw [hn]; exact h)
theorem d2_38 : decode prog_20_method_3_code 38 = .ok (.imul, 1) := by decide +kernel
theorem s2_38 {rm : Room} {S : List Value} {H : AHeap} {Q : Option Value → AHeap → Prop} {l0 l1 l2 : Slot} {x y : Int32} (h : W2 rm 39 [l0, l1, l2] (.int (x * y) :: S) (H) Q) : W2 rm 38 [l0, l1, l2] (.int y :: .int x :: S) H Q := W.imul d2_38 h
theorem d2_39 : decode prog_20_method_3_code 39 = .ok (.invokestatic 25, 3) := by decide +kernel
theorem d2_42 : decode prog_20_method_3_code 42 = .ok (.putfield 13, 3) := by decide +kernel
theorem s2_42 {rm : Room} {S : List Value} {H : AHeap} {Q : Option Value → AHeap → Prop} {l0 l1 l2 : Slot} {i : Nat} {f0 f1 f2 f3 f4 : Value} {x : Nat} (hH : H[i]? = some (.inl (0, [f0, f1, f2, f3, f4]))) (h : W2 rm 45 [l0, l1, l2] (S) (H.set i (.inl (0, [f0, .ref x, f2, f3, f4]))) Q) : W2 rm 42 [l0, l1, l2] (.ref x :: .ref i :: S) H Q := W.putF (c := 0) (j := 1) kt d2_42 (host := "") (Or.inl (List.mem_of_getElem? (i := 12) rfl)) (Or.inl rfl) rfl rfl (Or.inl (List.mem_of_getElem? (i := 13) rfl)) rfl rfl hH h
theorem d2_45 : decode prog_20_method_3_code 45 = .ok (.aload_n 0, 1) := by decide +kernel
theorem s2_45 {rm : Room} {S : List Value} {H : AHeap} {Q : Option Value → AHeap → Prop} {l1 l2 : Slot} {i : Nat} (h : W2 rm 46 [.val (.ref i), l1, l2] (.ref i :: S) (H) Q) : W2 rm 45 [.val (.ref i), l1, l2] (S) H Q := W.aload_n d2_45 rfl rfl h
theorem s2_45n {rm : Room} {S : List Value} {H : AHeap} {Q : Option Value → AHeap → Prop} {l1 l2 : Slot}  (h : W2 rm 46 [.val .null, l1, l2] (.null :: S) (H) Q) : W2 rm 45 [.val .null, l1, l2] (S) H Q := W.aload_n d2_45 rfl rfl h
theorem d2_46 : decode prog_20_method_3_code 46 = .ok (.getfield 16, 3) := by decide +kernel
theorem s2_46 {rm : Room} {S : List Value} {H : AHeap} {Q : Option Value → AHeap → Prop} {l0 l1 l2 : Slot} {i : Nat} {f0 f1 f2 f3 f4 : Value} (hH : H[i]? = some (.inl (0, [f0, f1, f2, f3, f4]))) (h : W2 rm 49 [l0, l1, l2] (f2 :: S) (H) Q) : W2 rm 46 [l0, l1, l2] (.ref i :: S) H Q := W.getF (c := 0) (j := 2) d2_46 (host := "") (Or.inl (List.mem_of_getElem? (i := 14) rfl)) (Or.inl rfl) rfl rfl hH rfl h
theorem d2_49 : decode prog_20_method_3_code 49 = .ok (.iload_n 1, 1) := by decide +kernel
theorem s2_49 {rm : Room} {S : List Value} {H : AHeap} {Q : Option Value → AHeap → Prop} {l0 l2 : Slot} {x : Int32} (h : W2 rm 50 [l0, .val (.int x), l2] (.int x :: S) (H) Q) : W2 rm 49 [l0, .val (.int x), l2] (S) H Q := W.iload_n d2_49 rfl h
theorem d2_50 : decode prog_20_method_3_code 50 = .ok (.iload_n 2, 1) := by decide +kernel
theorem s2_50 {rm : Room} {S : List Value} {H : AHeap} {Q : Option Value → AHeap → Prop} {l0 l1 : Slot} {x : Int32} (h : W2 rm 51 [l0, l1, .val (.int x)] (.int x :: S) (H) Q) : W2 rm 50 [l0, l1, .val (.int x)] (S) H Q := W.iload_n d2_50 rfl h
theorem d2_51 : decode prog_20_method_3_code 51 = .ok (.iastore, 1) := by decide +kernel
theorem s2_51 {rm : Room} {S : List Value} {H : AHeap} {Q : Option Value → AHeap → Prop} {l0 l1 l2 : Slot} {i : Nat} {j : Int32} {x : Int32} {vs : List Value} (N : Nat) (hH : H[i]? = some (.inr (.int, vs))) (hj : ix j N) (hl : Nat.blt N vs.length = true) (h : W2 rm 52 [l0, l1, l2] (S) (H.set i (.inr (.int, vs.set N (.int x)))) Q) : W2 rm 51 [l0, l1, l2] (.int x :: .int j :: .ref i :: S) H Q := W.iastore d2_51 hH hj hl h
theorem d2_52 : decode prog_20_method_3_code 52 = .ok (.aload_n 0, 1) := by decide +kernel
theorem s2_52 {rm : Room} {S : List Value} {H : AHeap} {Q : Option Value → AHeap → Prop} {l1 l2 : Slot} {i : Nat} (h : W2 rm 53 [.val (.ref i), l1, l2] (.ref i :: S) (H) Q) : W2 rm 52 [.val (.ref i), l1, l2] (S) H Q := W.aload_n d2_52 rfl rfl h
theorem s2_52n {rm : Room} {S : List Value} {H : AHeap} {Q : Option Value → AHeap → Prop} {l1 l2 : Slot}  (h : W2 rm 53 [.val .null, l1, l2] (.null :: S) (H) Q) : W2 rm 52 [.val .null, l1, l2] (S) H Q := W.aload_n d2_52 rfl rfl h
theorem d2_53 : decode prog_20_method_3_code 53 = .ok (.getfield 19, 3) := by decide +kernel
theorem s2_53 {rm : Room} {S : List Value} {H : AHeap} {Q : Option Value → AHeap → Prop} {l0 l1 l2 : Slot} {i : Nat} {f0 f1 f2 f3 f4 : Value} (hH : H[i]? = some (.inl (0, [f0, f1, f2, f3, f4]))) (h : W2 rm 56 [l0, l1, l2] (f3 :: S) (H) Q) : W2 rm 53 [l0, l1, l2] (.ref i :: S) H Q := W.getF (c := 0) (j := 3) d2_53 (host := "") (Or.inl (List.mem_of_getElem? (i := 16) rfl)) (Or.inl rfl) rfl rfl hH rfl h
theorem d2_56 : decode prog_20_method_3_code 56 = .ok (.iload_n 1, 1) := by decide +kernel
theorem s2_56 {rm : Room} {S : List Value} {H : AHeap} {Q : Option Value → AHeap → Prop} {l0 l2 : Slot} {x : Int32} (h : W2 rm 57 [l0, .val (.int x), l2] (.int x :: S) (H) Q) : W2 rm 56 [l0, .val (.int x), l2] (S) H Q := W.iload_n d2_56 rfl h
theorem d2_57 : decode prog_20_method_3_code 57 = .ok (.aload_n 0, 1) := by decide +kernel
theorem s2_57 {rm : Room} {S : List Value} {H : AHeap} {Q : Option Value → AHeap → Prop} {l1 l2 : Slot} {i : Nat} (h : W2 rm 58 [.val (.ref i), l1, l2] (.ref i :: S) (H) Q) : W2 rm 57 [.val (.ref i), l1, l2] (S) H Q := W.aload_n d2_57 rfl rfl h
theorem s2_57n {rm : Room} {S : List Value} {H : AHeap} {Q : Option Value → AHeap → Prop} {l1 l2 : Slot}  (h : W2 rm 58 [.val .null, l1, l2] (.null :: S) (H) Q) : W2 rm 57 [.val .null, l1, l2] (S) H Q := W.aload_n d2_57 rfl rfl h
theorem d2_58 : decode prog_20_method_3_code 58 = .ok (.getfield 13, 3) := by decide +kernel
theorem s2_58 {rm : Room} {S : List Value} {H : AHeap} {Q : Option Value → AHeap → Prop} {l0 l1 l2 : Slot} {i : Nat} {f0 f1 f2 f3 f4 : Value} (hH : H[i]? = some (.inl (0, [f0, f1, f2, f3, f4]))) (h : W2 rm 61 [l0, l1, l2] (f1 :: S) (H) Q) : W2 rm 58 [l0, l1, l2] (.ref i :: S) H Q := W.getF (c := 0) (j := 1) d2_58 (host := "") (Or.inl (List.mem_of_getElem? (i := 12) rfl)) (Or.inl rfl) rfl rfl hH rfl h
theorem d2_61 : decode prog_20_method_3_code 61 = .ok (.iload_n 2, 1) := by decide +kernel
theorem s2_61 {rm : Room} {S : List Value} {H : AHeap} {Q : Option Value → AHeap → Prop} {l0 l1 : Slot} {x : Int32} (h : W2 rm 62 [l0, l1, .val (.int x)] (.int x :: S) (H) Q) : W2 rm 61 [l0, l1, .val (.int x)] (S) H Q := W.iload_n d2_61 rfl h
theorem d2_62 : decode prog_20_method_3_code 62 = .ok (.iaload, 1) := by decide +kernel
theorem s2_62 {rm : Room} {S : List Value} {H : AHeap} {Q : Option Value → AHeap → Prop} {l0 l1 l2 : Slot} {i : Nat} {j : Int32} {vs : List Value} {v : Value} (N : Nat) (hH : H[i]? = some (.inr (.int, vs))) (hj : ix j N) (hv : vs[N]? = some v) (h : W2 rm 63 [l0, l1, l2] (v :: S) (H) Q) : W2 rm 62 [l0, l1, l2] (.int j :: .ref i :: S) H Q := W.xaload (Or.inl ⟨rfl, rfl⟩) d2_62 hH hj hv h
theorem d2_63 : decode prog_20_method_3_code 63 = .ok (.iastore, 1) := by decide +kernel
theorem s2_63 {rm : Room} {S : List Value} {H : AHeap} {Q : Option Value → AHeap → Prop} {l0 l1 l2 : Slot} {i : Nat} {j : Int32} {x : Int32} {vs : List Value} (N : Nat) (hH : H[i]? = some (.inr (.int, vs))) (hj : ix j N) (hl : Nat.blt N vs.length = true) (h : W2 rm 64 [l0, l1, l2] (S) (H.set i (.inr (.int, vs.set N (.int x)))) Q) : W2 rm 63 [l0, l1, l2] (.int x :: .int j :: .ref i :: S) H Q := W.iastore d2_63 hH hj hl h
theorem d2_64 : decode prog_20_method_3_code 64 = .ok (.aload_n 0, 1) := by decide +kernel
theorem s2_64 {rm : Room} {S : List Value} {H : AHeap} {Q : Option Value → AHeap → Prop} {l1 l2 : Slot} {i : Nat} (h : W2 rm 65 [.val (.ref i), l1, l2] (.ref i :: S) (H) Q) : W2 rm 64 [.val (.ref i), l1, l2] (S) H Q := W.aload_n d2_64 rfl rfl h
theorem s2_64n {rm : Room} {S : List Value} {H : AHeap} {Q : Option Value → AHeap → Prop} {l1 l2 : Slot}  (h : W2 rm 65 [.val .null, l1, l2] (.null :: S) (H) Q) : W2 rm 64 [.val .null, l1, l2] (S) H Q := W.aload_n d2_64 rfl rfl h
theorem d2_65 : decode prog_20_method_3_code 65 = .ok (.getfield 22, 3) := by decide +kernel
theorem s2_65 {rm : Room} {S : List Value} {H : AHeap} {Q : Option Value → AHeap → Prop} {l0 l1 l2 : Slot} {i : Nat} {f0 f1 f2 f3 f4 : Value} (hH : H[i]? = some (.inl (0, [f0, f1, f2, f3, f4]))) (h : W2 rm 68 [l0, l1, l2] (f4 :: S) (H) Q) : W2 rm 65 [l0, l1, l2] (.ref i :: S) H Q := W.getF (c := 0) (j := 4) d2_65 (host := "") (Or.inl (List.mem_of_getElem? (i := 18) rfl)) (Or.inl rfl) rfl rfl hH rfl h
theorem d2_68 : decode prog_20_method_3_code 68 = .ok (.iload_n 1, 1) := by decide +kernel
theorem s2_68 {rm : Room} {S : List Value} {H : AHeap} {Q : Option Value → AHeap → Prop} {l0 l2 : Slot} {x : Int32} (h : W2 rm 69 [l0, .val (.int x), l2] (.int x :: S) (H) Q) : W2 rm 68 [l0, .val (.int x), l2] (S) H Q := W.iload_n d2_68 rfl h
theorem d2_69 : decode prog_20_method_3_code 69 = .ok (.iconst 0, 1) := by decide +kernel
theorem s2_69 {rm : Room} {S : List Value} {H : AHeap} {Q : Option Value → AHeap → Prop} {l0 l1 l2 : Slot}  (h : W2 rm 70 [l0, l1, l2] (.int 0 :: S) (H) Q) : W2 rm 69 [l0, l1, l2] (S) H Q := W.iconst' d2_69 (by decide) h
theorem d2_70 : decode prog_20_method_3_code 70 = .ok (.iastore, 1) := by decide +kernel
theorem s2_70 {rm : Room} {S : List Value} {H : AHeap} {Q : Option Value → AHeap → Prop} {l0 l1 l2 : Slot} {i : Nat} {j : Int32} {x : Int32} {vs : List Value} (N : Nat) (hH : H[i]? = some (.inr (.int, vs))) (hj : ix j N) (hl : Nat.blt N vs.length = true) (h : W2 rm 71 [l0, l1, l2] (S) (H.set i (.inr (.int, vs.set N (.int x)))) Q) : W2 rm 70 [l0, l1, l2] (.int x :: .int j :: .ref i :: S) H Q := W.iastore d2_70 hH hj hl h
theorem d2_71 : decode prog_20_method_3_code 71 = .ok (.aload_n 0, 1) := by decide +kernel
theorem s2_71 {rm : Room} {S : List Value} {H : AHeap} {Q : Option Value → AHeap → Prop} {l1 l2 : Slot} {i : Nat} (h : W2 rm 72 [.val (.ref i), l1, l2] (.ref i :: S) (H) Q) : W2 rm 71 [.val (.ref i), l1, l2] (S) H Q := W.aload_n d2_71 rfl rfl h
theorem s2_71n {rm : Room} {S : List Value} {H : AHeap} {Q : Option Value → AHeap → Prop} {l1 l2 : Slot}  (h : W2 rm 72 [.val .null, l1, l2] (.null :: S) (H) Q) : W2 rm 71 [.val .null, l1, l2] (S) H Q := W.aload_n d2_71 rfl rfl h
theorem d2_72 : decode prog_20_method_3_code 72 = .ok (.getfield 13, 3) := by decide +kernel
theorem s2_72 {rm : Room} {S : List Value} {H : AHeap} {Q : Option Value → AHeap → Prop} {l0 l1 l2 : Slot} {i : Nat} {f0 f1 f2 f3 f4 : Value} (hH : H[i]? = some (.inl (0, [f0, f1, f2, f3, f4]))) (h : W2 rm 75 [l0, l1, l2] (f1 :: S) (H) Q) : W2 rm 72 [l0, l1, l2] (.ref i :: S) H Q := W.getF (c := 0) (j := 1) d2_72 (host := "") (Or.inl (List.mem_of_getElem? (i := 12) rfl)) (Or.inl rfl) rfl rfl hH rfl h
theorem d2_75 : decode prog_20_method_3_code 75 = .ok (.iload_n 2, 1) := by decide +kernel
theorem s2_75 {rm : Room} {S : List Value} {H : AHeap} {Q : Option Value → AHeap → Prop} {l0 l1 : Slot} {x : Int32} (h : W2 rm 76 [l0, l1, .val (.int x)] (.int x :: S) (H) Q) : W2 rm 75 [l0, l1, .val (.int x)] (S) H Q := W.iload_n d2_75 rfl h
theorem d2_76 : decode prog_20_method_3_code 76 = .ok (.iaload, 1) := by decide +kernel
theorem s2_76 {rm : Room} {S : List Value} {H : AHeap} {Q : Option Value → AHeap → Prop} {l0 l1 l2 : Slot} {i : Nat} {j : Int32} {vs : List Value} {v : Value} (N : Nat) (hH : H[i]? = some (.inr (.int, vs))) (hj : ix j N) (hv : vs[N]? = some v) (h : W2 rm 77 [l0, l1, l2] (v :: S) (H) Q) : W2 rm 76 [l0, l1, l2] (.int j :: .ref i :: S) H Q := W.xaload (Or.inl ⟨rfl, rfl⟩) d2_76 hH hj hv h
theorem d2_77 : decode prog_20_method_3_code 77 = .ok (.ifCond .ne 13, 3) := by decide +kernel
theorem s2_77 {rm : Room} {S : List Value} {H : AHeap} {Q : Option Value → AHeap → Prop} {l0 l1 l2 : Slot} {x : Int32} (h1 : ¬ x = 0 → W2 rm 90 [l0, l1, l2] S H Q) (h2 : x = 0 → W2 rm 80 [l0, l1, l2] S H Q) : W2 rm 77 [l0, l1, l2] (.int x :: S) H Q := W.ifc d2_77 (by decide) (by decide) h1 h2
theorem d2_80 : decode prog_20_method_3_code 80 = .ok (.aload_n 0, 1) := by decide +kernel
theorem s2_80 {rm : Room} {S : List Value} {H : AHeap} {Q : Option Value → AHeap → Prop} {l1 l2 : Slot} {i : Nat} (h : W2 rm 81 [.val (.ref i), l1, l2] (.ref i :: S) (H) Q) : W2 rm 80 [.val (.ref i), l1, l2] (S) H Q := W.aload_n d2_80 rfl rfl h
theorem s2_80n {rm : Room} {S : List Value} {H : AHeap} {Q : Option Value → AHeap → Prop} {l1 l2 : Slot}  (h : W2 rm 81 [.val .null, l1, l2] (.null :: S) (H) Q) : W2 rm 80 [.val .null, l1, l2] (S) H Q := W.aload_n d2_80 rfl rfl h
theorem d2_81 : decode prog_20_method_3_code 81 = .ok (.getfield 9, 3) := by decide +kernel
theorem s2_81 {rm : Room} {S : List Value} {H : AHeap} {Q : Option Value → AHeap → Prop} {l0 l1 l2 : Slot} {i : Nat} {f0 f1 f2 f3 f4 : Value} (hH : H[i]? = some (.inl (0, [f0, f1, f2, f3, f4]))) (h : W2 rm 84 [l0, l1, l2] (f0 :: S) (H) Q) : W2 rm 81 [l0, l1, l2] (.ref i :: S) H Q := W.getF (c := 0) (j := 0) d2_81 (host := "") (Or.inl (List.mem_of_getElem? (i := 10) rfl)) (Or.inl rfl) rfl rfl hH rfl h
theorem d2_84 : decode prog_20_method_3_code 84 = .ok (.iload_n 2, 1) := by decide +kernel
theorem s2_84 {rm : Room} {S : List Value} {H : AHeap} {Q : Option Value → AHeap → Prop} {l0 l1 : Slot} {x : Int32} (h : W2 rm 85 [l0, l1, .val (.int x)] (.int x :: S) (H) Q) : W2 rm 84 [l0, l1, .val (.int x)] (S) H Q := W.iload_n d2_84 rfl h
theorem d2_85 : decode prog_20_method_3_code 85 = .ok (.iload_n 1, 1) := by decide +kernel
theorem s2_85 {rm : Room} {S : List Value} {H : AHeap} {Q : Option Value → AHeap → Prop} {l0 l2 : Slot} {x : Int32} (h : W2 rm 86 [l0, .val (.int x), l2] (.int x :: S) (H) Q) : W2 rm 85 [l0, .val (.int x), l2] (S) H Q := W.iload_n d2_85 rfl h
theorem d2_86 : decode prog_20_method_3_code 86 = .ok (.iastore, 1) := by decide +kernel
theorem s2_86 {rm : Room} {S : List Value} {H : AHeap} {Q : Option Value → AHeap → Prop} {l0 l1 l2 : Slot} {i : Nat} {j : Int32} {x : Int32} {vs : List Value} (N : Nat) (hH : H[i]? = some (.inr (.int, vs))) (hj : ix j N) (hl : Nat.blt N vs.length = true) (h : W2 rm 87 [l0, l1, l2] (S) (H.set i (.inr (.int, vs.set N (.int x)))) Q) : W2 rm 86 [l0, l1, l2] (.int x :: .int j :: .ref i :: S) H Q := W.iastore d2_86 hH hj hl h
theorem d2_87 : decode prog_20_method_3_code 87 = .ok (.goto 15, 3) := by decide +kernel
theorem s2_87 {rm : Room} {S : List Value} {H : AHeap} {Q : Option Value → AHeap → Prop} {l0 l1 l2 : Slot}  (h : W2 rm 102 [l0, l1, l2] (S) (H) Q) : W2 rm 87 [l0, l1, l2] (S) H Q := W.goto d2_87 (by decide) (by decide) h
theorem d2_90 : decode prog_20_method_3_code 90 = .ok (.aload_n 0, 1) := by decide +kernel
theorem s2_90 {rm : Room} {S : List Value} {H : AHeap} {Q : Option Value → AHeap → Prop} {l1 l2 : Slot} {i : Nat} (h : W2 rm 91 [.val (.ref i), l1, l2] (.ref i :: S) (H) Q) : W2 rm 90 [.val (.ref i), l1, l2] (S) H Q := W.aload_n d2_90 rfl rfl h
theorem s2_90n {rm : Room} {S : List Value} {H : AHeap} {Q : Option Value → AHeap → Prop} {l1 l2 : Slot}  (h : W2 rm 91 [.val .null, l1, l2] (.null :: S) (H) Q) : W2 rm 90 [.val .null, l1, l2] (S) H Q := W.aload_n d2_90 rfl rfl h
theorem d2_91 : decode prog_20_method_3_code 91 = .ok (.getfield 22, 3) := by decide +kernel
theorem s2_91 {rm : Room} {S : List Value} {H : AHeap} {Q : Option Value → AHeap → Prop} {l0 l1 l2 : Slot} {i : Nat} {f0 f1 f2 f3 f4 : Value} (hH : H[i]? = some (.inl (0, [f0, f1, f2, f3, f4]))) (h : W2 rm 94 [l0, l1, l2] (f4 :: S) (H) Q) : W2 rm 91 [l0, l1, l2] (.ref i :: S) H Q := W.getF (c := 0) (j := 4) d2_91 (host := "") (Or.inl (List.mem_of_getElem? (i := 18) rfl)) (Or.inl rfl) rfl rfl hH rfl h
theorem d2_94 : decode prog_20_method_3_code 94 = .ok (.aload_n 0, 1) := by decide +kernel
theorem s2_94 {rm : Room} {S : List Value} {H : AHeap} {Q : Option Value → AHeap → Prop} {l1 l2 : Slot} {i : Nat} (h : W2 rm 95 [.val (.ref i), l1, l2] (.ref i :: S) (H) Q) : W2 rm 94 [.val (.ref i), l1, l2] (S) H Q := W.aload_n d2_94 rfl rfl h
theorem s2_94n {rm : Room} {S : List Value} {H : AHeap} {Q : Option Value → AHeap → Prop} {l1 l2 : Slot}  (h : W2 rm 95 [.val .null, l1, l2] (.null :: S) (H) Q) : W2 rm 94 [.val .null, l1, l2] (S) H Q := W.aload_n d2_94 rfl rfl h
theorem d2_95 : decode prog_20_method_3_code 95 = .ok (.getfield 13, 3) := by decide +kernel
theorem s2_95 {rm : Room} {S : List Value} {H : AHeap} {Q : Option Value → AHeap → Prop} {l0 l1 l2 : Slot} {i : Nat} {f0 f1 f2 f3 f4 : Value} (hH : H[i]? = some (.inl (0, [f0, f1, f2, f3, f4]))) (h : W2 rm 98 [l0, l1, l2] (f1 :: S) (H) Q) : W2 rm 95 [l0, l1, l2] (.ref i :: S) H Q := W.getF (c := 0) (j := 1) d2_95 (host := "") (Or.inl (List.mem_of_getElem? (i := 12) rfl)) (Or.inl rfl) rfl rfl hH rfl h
theorem d2_98 : decode prog_20_method_3_code 98 = .ok (.iload_n 2, 1) := by decide +kernel
theorem s2_98 {rm : Room} {S : List Value} {H : AHeap} {Q : Option Value → AHeap → Prop} {l0 l1 : Slot} {x : Int32} (h : W2 rm 99 [l0, l1, .val (.int x)] (.int x :: S) (H) Q) : W2 rm 98 [l0, l1, .val (.int x)] (S) H Q := W.iload_n d2_98 rfl h
theorem d2_99 : decode prog_20_method_3_code 99 = .ok (.iaload, 1) := by decide +kernel
theorem s2_99 {rm : Room} {S : List Value} {H : AHeap} {Q : Option Value → AHeap → Prop} {l0 l1 l2 : Slot} {i : Nat} {j : Int32} {vs : List Value} {v : Value} (N : Nat) (hH : H[i]? = some (.inr (.int, vs))) (hj : ix j N) (hv : vs[N]? = some v) (h : W2 rm 100 [l0, l1, l2] (v :: S) (H) Q) : W2 rm 99 [l0, l1, l2] (.int j :: .ref i :: S) H Q := W.xaload (Or.inl ⟨rfl, rfl⟩) d2_99 hH hj hv h
theorem d2_100 : decode prog_20_method_3_code 100 = .ok (.iload_n 1, 1) := by decide +kernel
theorem s2_100 {rm : Room} {S : List Value} {H : AHeap} {Q : Option Value → AHeap → Prop} {l0 l2 : Slot} {x : Int32} (h : W2 rm 101 [l0, .val (.int x), l2] (.int x :: S) (H) Q) : W2 rm 100 [l0, .val (.int x), l2] (S) H Q := W.iload_n d2_100 rfl h
theorem d2_101 : decode prog_20_method_3_code 101 = .ok (.iastore, 1) := by decide +kernel
theorem s2_101 {rm : Room} {S : List Value} {H : AHeap} {Q : Option Value → AHeap → Prop} {l0 l1 l2 : Slot} {i : Nat} {j : Int32} {x : Int32} {vs : List Value} (N : Nat) (hH : H[i]? = some (.inr (.int, vs))) (hj : ix j N) (hl : Nat.blt N vs.length = true) (h : W2 rm 102 [l0, l1, l2] (S) (H.set i (.inr (.int, vs.set N (.int x)))) Q) : W2 rm 101 [l0, l1, l2] (.int x :: .int j :: .ref i :: S) H Q := W.iastore d2_101 hH hj hl h
theorem d2_102 : decode prog_20_method_3_code 102 = .ok (.aload_n 0, 1) := by decide +kernel
theorem s2_102 {rm : Room} {S : List Value} {H : AHeap} {Q : Option Value → AHeap → Prop} {l1 l2 : Slot} {i : Nat} (h : W2 rm 103 [.val (.ref i), l1, l2] (.ref i :: S) (H) Q) : W2 rm 102 [.val (.ref i), l1, l2] (S) H Q := W.aload_n d2_102 rfl rfl h
theorem s2_102n {rm : Room} {S : List Value} {H : AHeap} {Q : Option Value → AHeap → Prop} {l1 l2 : Slot}  (h : W2 rm 103 [.val .null, l1, l2] (.null :: S) (H) Q) : W2 rm 102 [.val .null, l1, l2] (S) H Q := W.aload_n d2_102 rfl rfl h
theorem d2_103 : decode prog_20_method_3_code 103 = .ok (.getfield 13, 3) := by decide +kernel
theorem s2_103 {rm : Room} {S : List Value} {H : AHeap} {Q : Option Value → AHeap → Prop} {l0 l1 l2 : Slot} {i : Nat} {f0 f1 f2 f3 f4 : Value} (hH : H[i]? = some (.inl (0, [f0, f1, f2, f3, f4]))) (h : W2 rm 106 [l0, l1, l2] (f1 :: S) (H) Q) : W2 rm 103 [l0, l1, l2] (.ref i :: S) H Q := W.getF (c := 0) (j := 1) d2_103 (host := "") (Or.inl (List.mem_of_getElem? (i := 12) rfl)) (Or.inl rfl) rfl rfl hH rfl h
theorem d2_106 : decode prog_20_method_3_code 106 = .ok (.iload_n 2, 1) := by decide +kernel
theorem s2_106 {rm : Room} {S : List Value} {H : AHeap} {Q : Option Value → AHeap → Prop} {l0 l1 : Slot} {x : Int32} (h : W2 rm 107 [l0, l1, .val (.int x)] (.int x :: S) (H) Q) : W2 rm 106 [l0, l1, .val (.int x)] (S) H Q := W.iload_n d2_106 rfl h
theorem d2_107 : decode prog_20_method_3_code 107 = .ok (.iload_n 1, 1) := by decide +kernel
theorem s2_107 {rm : Room} {S : List Value} {H : AHeap} {Q : Option Value → AHeap → Prop} {l0 l2 : Slot} {x : Int32} (h : W2 rm 108 [l0, .val (.int x), l2] (.int x :: S) (H) Q) : W2 rm 107 [l0, .val (.int x), l2] (S) H Q := W.iload_n d2_107 rfl h
theorem d2_108 : decode prog_20_method_3_code 108 = .ok (.iastore, 1) := by decide +kernel
theorem s2_108 {rm : Room} {S : List Value} {H : AHeap} {Q : Option Value → AHeap → Prop} {l0 l1 l2 : Slot} {i : Nat} {j : Int32} {x : Int32} {vs : List Value} (N : Nat) (hH : H[i]? = some (.inr (.int, vs))) (hj : ix j N) (hl : Nat.blt N vs.length = true) (h : W2 rm 109 [l0, l1, l2] (S) (H.set i (.inr (.int, vs.set N (.int x)))) Q) : W2 rm 108 [l0, l1, l2] (.int x :: .int j :: .ref i :: S) H Q := W.iastore d2_108 hH hj hl h
theorem d2_109 : decode prog_20_method_3_code 109 = .ok (.return_, 1) := by decide +kernel
theorem s2_109 {rm : Room} {H : AHeap} {Q : Option Value → AHeap → Prop} {l0 l1 l2 : Slot} (hQ : Q none H) : W2 rm 109 [l0, l1, l2] [] H Q := W.ret_ d2_109 rfl hQ
theorem e3 {rm : Room} {H : AHeap} {Q : Option Value → AHeap → Prop} {a0 : Nat} {a1 : Int32} (h : W3 rm 0 [.val (.ref a0), .val (.int a1), .unset, .unset, .unset, .unset] [] H Q) : M3 rm [.ref a0, .int a1] H Q := M.of pf3 rfl rfl h
theorem e3L {rm : Room} {H : AHeap} {Q : Option Value → AHeap → Prop} {L : List Slot} {as : List Value} (h : W3 rm 0 L [] H Q) (hl : ent as ++ List.replicate (6 - (ent as).length) .unset = L := by rfl) (hn : L.length = 6 := by rfl) : M3 rm as H Q := M.of pf3 hl hn h
theorem d3_0 : decode prog_20_method_5_code 0 = .ok (.iconst 0, 1) := by decide +kernel
theorem s3_0 {rm : Room} {S : List Value} {H : AHeap} {Q : Option Value → AHeap → Prop} {l0 l1 l2 l3 l4 l5 : Slot}  (h : W3 rm 1 [l0, l1, l2, l3, l4, l5] (.int 0 :: S) (H) Q) : W3 rm 0 [l0, l1, l2, l3, l4, l5] (S) H Q := W.iconst' d3_0 (by decide) h
theorem d3_1 : decode prog_20_method_5_code 1 = .ok (.istore_n 2, 1) := by decide +kernel
theorem s3_1 {rm : Room} {S : List Value} {H : AHeap} {Q : Option Value → AHeap → Prop} {l0 l1 l2 l3 l4 l5 : Slot} {x : Int32} (ho : one l2 = true) (h : W3 rm 2 [l0, l1, .val (.int x), l3, l4, l5] (S) (H) Q) : W3 rm 1 [l0, l1, l2, l3, l4, l5] (.int x :: S) H Q := W.istore_n d3_1 rfl ho h
theorem s3_1w {rm : Room} {S : List Value} {H : AHeap} {Q : Option Value → AHeap → Prop} {l0 l1 l3 l4 l5 : Slot} {w : Value} {x : Int32} (ho : w.category = 2) (h : W3 rm 2 [l0, l1, .val (.int x), .unset, l4, l5] (S) (H) Q) : W3 rm 1 [l0, l1, .val w, l3, l4, l5] (.int x :: S) H Q := W.istore_nW d3_1 rfl ho (Nat.le_of_ble_eq_true rfl) h
theorem s3_1s {rm : Room} {S : List Value} {H : AHeap} {Q : Option Value → AHeap → Prop} {l0 l1 l3 l4 l5 : Slot} {x : Int32} (h : W3 rm 2 [l0, .unset, .val (.int x), l3, l4, l5] (S) (H) Q) : W3 rm 1 [l0, l1, .second, l3, l4, l5] (.int x :: S) H Q := W.istore_nS d3_1 rfl (by decide) h
theorem d3_2 : decode prog_20_method_5_code 2 = .ok (.aload_n 0, 1) := by decide +kernel
theorem s3_2 {rm : Room} {S : List Value} {H : AHeap} {Q : Option Value → AHeap → Prop} {l1 l2 l3 l4 l5 : Slot} {i : Nat} (h : W3 rm 3 [.val (.ref i), l1, l2, l3, l4, l5] (.ref i :: S) (H) Q) : W3 rm 2 [.val (.ref i), l1, l2, l3, l4, l5] (S) H Q := W.aload_n d3_2 rfl rfl h
theorem s3_2n {rm : Room} {S : List Value} {H : AHeap} {Q : Option Value → AHeap → Prop} {l1 l2 l3 l4 l5 : Slot}  (h : W3 rm 3 [.val .null, l1, l2, l3, l4, l5] (.null :: S) (H) Q) : W3 rm 2 [.val .null, l1, l2, l3, l4, l5] (S) H Q := W.aload_n d3_2 rfl rfl h
theorem d3_3 : decode prog_20_method_5_code 3 = .ok (.getfield 9, 3) := by decide +kernel
theorem s3_3 {rm : Room} {S : List Value} {H : AHeap} {Q : Option Value → AHeap → Prop} {l0 l1 l2 l3 l4 l5 : Slot} {i : Nat} {f0 f1 f2 f3 f4 : Value} (hH : H[i]? = some (.inl (0, [f0, f1, f2, f3, f4]))) (h : W3 rm 6 [l0, l1, l2, l3, l4, l5] (f0 :: S) (H) Q) : W3 rm 3 [l0, l1, l2, l3, l4, l5] (.ref i :: S) H Q := W.getF (c := 0) (j := 0) d3_3 (host := "") (Or.inl (List.mem_of_getElem? (i := 10) rfl)) (Or.inl rfl) rfl rfl hH rfl h
theorem d3_6 : decode prog_20_method_5_code 6 = .ok (.iload_n 1, 1) := by decide +kernel
theorem s3_6 {rm : Room} {S : List Value} {H : AHeap} {Q : Option Value → AHeap → Prop} {l0 l2 l3 l4 l5 : Slot} {x : Int32} (h : W3 rm 7 [l0, .val (.int x), l2, l3, l4, l5] (.int x :: S) (H) Q) : W3 rm 6 [l0, .val (.int x), l2, l3, l4, l5] (S) H Q := W.iload_n d3_6 rfl h
theorem d3_7 : decode prog_20_method_5_code 7 = .ok (.iaload, 1) := by decide +kernel
theorem s3_7 {rm : Room} {S : List Value} {H : AHeap} {Q : Option Value → AHeap → Prop} {l0 l1 l2 l3 l4 l5 : Slot} {i : Nat} {j : Int32} {vs : List Value} {v : Value} (N : Nat) (hH : H[i]? = some (.inr (.int, vs))) (hj : ix j N) (hv : vs[N]? = some v) (h : W3 rm 8 [l0, l1, l2, l3, l4, l5] (v :: S) (H) Q) : W3 rm 7 [l0, l1, l2, l3, l4, l5] (.int j :: .ref i :: S) H Q := W.xaload (Or.inl ⟨rfl, rfl⟩) d3_7 hH hj hv h
theorem d3_8 : decode prog_20_method_5_code 8 = .ok (.istore_n 3, 1) := by decide +kernel
theorem s3_8 {rm : Room} {S : List Value} {H : AHeap} {Q : Option Value → AHeap → Prop} {l0 l1 l2 l3 l4 l5 : Slot} {x : Int32} (ho : one l3 = true) (h : W3 rm 9 [l0, l1, l2, .val (.int x), l4, l5] (S) (H) Q) : W3 rm 8 [l0, l1, l2, l3, l4, l5] (.int x :: S) H Q := W.istore_n d3_8 rfl ho h
theorem s3_8w {rm : Room} {S : List Value} {H : AHeap} {Q : Option Value → AHeap → Prop} {l0 l1 l2 l4 l5 : Slot} {w : Value} {x : Int32} (ho : w.category = 2) (h : W3 rm 9 [l0, l1, l2, .val (.int x), .unset, l5] (S) (H) Q) : W3 rm 8 [l0, l1, l2, .val w, l4, l5] (.int x :: S) H Q := W.istore_nW d3_8 rfl ho (Nat.le_of_ble_eq_true rfl) h
theorem s3_8s {rm : Room} {S : List Value} {H : AHeap} {Q : Option Value → AHeap → Prop} {l0 l1 l2 l4 l5 : Slot} {x : Int32} (h : W3 rm 9 [l0, l1, .unset, .val (.int x), l4, l5] (S) (H) Q) : W3 rm 8 [l0, l1, l2, .second, l4, l5] (.int x :: S) H Q := W.istore_nS d3_8 rfl (by decide) h
theorem d3_9 : decode prog_20_method_5_code 9 = .ok (.iload_n 3, 1) := by decide +kernel
theorem s3_9 {rm : Room} {S : List Value} {H : AHeap} {Q : Option Value → AHeap → Prop} {l0 l1 l2 l4 l5 : Slot} {x : Int32} (h : W3 rm 10 [l0, l1, l2, .val (.int x), l4, l5] (.int x :: S) (H) Q) : W3 rm 9 [l0, l1, l2, .val (.int x), l4, l5] (S) H Q := W.iload_n d3_9 rfl h
theorem d3_10 : decode prog_20_method_5_code 10 = .ok (.ifCond .eq 16, 3) := by decide +kernel
theorem s3_10 {rm : Room} {S : List Value} {H : AHeap} {Q : Option Value → AHeap → Prop} {l0 l1 l2 l3 l4 l5 : Slot} {x : Int32} (h1 : x = 0 → W3 rm 26 [l0, l1, l2, l3, l4, l5] S H Q) (h2 : ¬ x = 0 → W3 rm 13 [l0, l1, l2, l3, l4, l5] S H Q) : W3 rm 10 [l0, l1, l2, l3, l4, l5] (.int x :: S) H Q := W.ifc d3_10 (by decide) (by decide) h1 h2
theorem d3_13 : decode prog_20_method_5_code 13 = .ok (.iinc 2 1, 3) := by decide +kernel
theorem s3_13 {rm : Room} {S : List Value} {H : AHeap} {Q : Option Value → AHeap → Prop} {l0 l1 l3 l4 l5 : Slot} {x : Int32} (h : W3 rm 16 [l0, l1, .val (.int (x + 1)), l3, l4, l5] (S) (H) Q) : W3 rm 13 [l0, l1, .val (.int x), l3, l4, l5] (S) H Q := W.iinc d3_13 (by decide) rfl h
theorem d3_16 : decode prog_20_method_5_code 16 = .ok (.aload_n 0, 1) := by decide +kernel
theorem s3_16 {rm : Room} {S : List Value} {H : AHeap} {Q : Option Value → AHeap → Prop} {l1 l2 l3 l4 l5 : Slot} {i : Nat} (h : W3 rm 17 [.val (.ref i), l1, l2, l3, l4, l5] (.ref i :: S) (H) Q) : W3 rm 16 [.val (.ref i), l1, l2, l3, l4, l5] (S) H Q := W.aload_n d3_16 rfl rfl h
theorem s3_16n {rm : Room} {S : List Value} {H : AHeap} {Q : Option Value → AHeap → Prop} {l1 l2 l3 l4 l5 : Slot}  (h : W3 rm 17 [.val .null, l1, l2, l3, l4, l5] (.null :: S) (H) Q) : W3 rm 16 [.val .null, l1, l2, l3, l4, l5] (S) H Q := W.aload_n d3_16 rfl rfl h
theorem d3_17 : decode prog_20_method_5_code 17 = .ok (.getfield 22, 3) := by decide +kernel
theorem s3_17 {rm : Room} {S : List Value} {H : AHeap} {Q : Option Value → AHeap → Prop} {l0 l1 l2 l3 l4 l5 : Slot} {i : Nat} {f0 f1 f2 f3 f4 : Value} (hH : H[i]? = some (.inl (0, [f0, f1, f2, f3, f4]))) (h : W3 rm 20 [l0, l1, l2, l3, l4, l5] (f4 :: S) (H) Q) : W3 rm 17 [l0, l1, l2, l3, l4, l5] (.ref i :: S) H Q := W.getF (c := 0) (j := 4) d3_17 (host := "") (Or.inl (List.mem_of_getElem? (i := 18) rfl)) (Or.inl rfl) rfl rfl hH rfl h
theorem d3_20 : decode prog_20_method_5_code 20 = .ok (.iload_n 3, 1) := by decide +kernel
theorem s3_20 {rm : Room} {S : List Value} {H : AHeap} {Q : Option Value → AHeap → Prop} {l0 l1 l2 l4 l5 : Slot} {x : Int32} (h : W3 rm 21 [l0, l1, l2, .val (.int x), l4, l5] (.int x :: S) (H) Q) : W3 rm 20 [l0, l1, l2, .val (.int x), l4, l5] (S) H Q := W.iload_n d3_20 rfl h
theorem d3_21 : decode prog_20_method_5_code 21 = .ok (.iaload, 1) := by decide +kernel
theorem s3_21 {rm : Room} {S : List Value} {H : AHeap} {Q : Option Value → AHeap → Prop} {l0 l1 l2 l3 l4 l5 : Slot} {i : Nat} {j : Int32} {vs : List Value} {v : Value} (N : Nat) (hH : H[i]? = some (.inr (.int, vs))) (hj : ix j N) (hv : vs[N]? = some v) (h : W3 rm 22 [l0, l1, l2, l3, l4, l5] (v :: S) (H) Q) : W3 rm 21 [l0, l1, l2, l3, l4, l5] (.int j :: .ref i :: S) H Q := W.xaload (Or.inl ⟨rfl, rfl⟩) d3_21 hH hj hv h
theorem d3_22 : decode prog_20_method_5_code 22 = .ok (.istore_n 3, 1) := by decide +kernel
theorem s3_22 {rm : Room} {S : List Value} {H : AHeap} {Q : Option Value → AHeap → Prop} {l0 l1 l2 l3 l4 l5 : Slot} {x : Int32} (ho : one l3 = true) (h : W3 rm 23 [l0, l1, l2, .val (.int x), l4, l5] (S) (H) Q) : W3 rm 22 [l0, l1, l2, l3, l4, l5] (.int x :: S) H Q := W.istore_n d3_22 rfl ho h
theorem s3_22w {rm : Room} {S : List Value} {H : AHeap} {Q : Option Value → AHeap → Prop} {l0 l1 l2 l4 l5 : Slot} {w : Value} {x : Int32} (ho : w.category = 2) (h : W3 rm 23 [l0, l1, l2, .val (.int x), .unset, l5] (S) (H) Q) : W3 rm 22 [l0, l1, l2, .val w, l4, l5] (.int x :: S) H Q := W.istore_nW d3_22 rfl ho (Nat.le_of_ble_eq_true rfl) h
theorem s3_22s {rm : Room} {S : List Value} {H : AHeap} {Q : Option Value → AHeap → Prop} {l0 l1 l2 l4 l5 : Slot} {x : Int32} (h : W3 rm 23 [l0, l1, .unset, .val (.int x), l4, l5] (S) (H) Q) : W3 rm 22 [l0, l1, l2, .second, l4, l5] (.int x :: S) H Q := W.istore_nS d3_22 rfl (by decide) h
theorem d3_23 : decode prog_20_method_5_code 23 = .ok (.goto (-14), 3) := by decide +kernel
theorem s3_23 {rm : Room} {S : List Value} {H : AHeap} {Q : Option Value → AHeap → Prop} {l0 l1 l2 l3 l4 l5 : Slot}  (h : W3 rm 9 [l0, l1, l2, l3, l4, l5] (S) (H) Q) : W3 rm 23 [l0, l1, l2, l3, l4, l5] (S) H Q := W.goto d3_23 (by decide) (by decide) h
theorem d3_26 : decode prog_20_method_5_code 26 = .ok (.iload_n 2, 1) := by decide +kernel
theorem s3_26 {rm : Room} {S : List Value} {H : AHeap} {Q : Option Value → AHeap → Prop} {l0 l1 l3 l4 l5 : Slot} {x : Int32} (h : W3 rm 27 [l0, l1, .val (.int x), l3, l4, l5] (.int x :: S) (H) Q) : W3 rm 26 [l0, l1, .val (.int x), l3, l4, l5] (S) H Q := W.iload_n d3_26 rfl h
theorem d3_27 : decode prog_20_method_5_code 27 = .ok (.newarray .int, 2) := by decide +kernel
theorem s3_27 {rm : Room} {S : List Value} {H : AHeap} {Q : Option Value → AHeap → Prop} {l0 l1 l2 l3 l4 l5 : Slot} {n : Int32} (i N : Nat) (hn : ix n N) (hi : H.length = i) (hr : nok rm N = true) (h : W3 ⟨rm.frames, rm.cells - 1, rm.slots - N, rm.locals⟩ 29 [l0, l1, l2, l3, l4, l5] (.ref i :: S) (H ++ [.inr (.int, List.replicate N (.int 0))]) Q) : W3 rm 27 [l0, l1, l2, l3, l4, l5] (.int n :: S) H Q := W.newarray (ty := .int) (d := .int 0) d3_27 rfl (List.mem_of_getElem? (i := 9) rfl) rfl hn hi hr h
theorem d3_29 : decode prog_20_method_5_code 29 = .ok (.astore_n 3, 1) := by decide +kernel
theorem s3_29 {rm : Room} {S : List Value} {H : AHeap} {Q : Option Value → AHeap → Prop} {l0 l1 l2 l3 l4 l5 : Slot} {i : Nat} (ho : one l3 = true) (h : W3 rm 30 [l0, l1, l2, .val (.ref i), l4, l5] (S) (H) Q) : W3 rm 29 [l0, l1, l2, l3, l4, l5] (.ref i :: S) H Q := W.astore_n d3_29 rfl ho rfl h
theorem d3_30 : decode prog_20_method_5_code 30 = .ok (.iconst 0, 1) := by decide +kernel
theorem s3_30 {rm : Room} {S : List Value} {H : AHeap} {Q : Option Value → AHeap → Prop} {l0 l1 l2 l3 l4 l5 : Slot}  (h : W3 rm 31 [l0, l1, l2, l3, l4, l5] (.int 0 :: S) (H) Q) : W3 rm 30 [l0, l1, l2, l3, l4, l5] (S) H Q := W.iconst' d3_30 (by decide) h
theorem d3_31 : decode prog_20_method_5_code 31 = .ok (.istore 4, 2) := by decide +kernel
theorem s3_31 {rm : Room} {S : List Value} {H : AHeap} {Q : Option Value → AHeap → Prop} {l0 l1 l2 l3 l4 l5 : Slot} {x : Int32} (ho : one l4 = true) (h : W3 rm 33 [l0, l1, l2, l3, .val (.int x), l5] (S) (H) Q) : W3 rm 31 [l0, l1, l2, l3, l4, l5] (.int x :: S) H Q := W.istore d3_31 rfl ho h
theorem s3_31w {rm : Room} {S : List Value} {H : AHeap} {Q : Option Value → AHeap → Prop} {l0 l1 l2 l3 l5 : Slot} {w : Value} {x : Int32} (ho : w.category = 2) (h : W3 rm 33 [l0, l1, l2, l3, .val (.int x), .unset] (S) (H) Q) : W3 rm 31 [l0, l1, l2, l3, .val w, l5] (.int x :: S) H Q := W.istoreW d3_31 rfl ho (Nat.le_of_ble_eq_true rfl) h
theorem s3_31s {rm : Room} {S : List Value} {H : AHeap} {Q : Option Value → AHeap → Prop} {l0 l1 l2 l3 l5 : Slot} {x : Int32} (h : W3 rm 33 [l0, l1, l2, .unset, .val (.int x), l5] (S) (H) Q) : W3 rm 31 [l0, l1, l2, l3, .second, l5] (.int x :: S) H Q := W.istoreS d3_31 rfl (by decide) h
theorem d3_33 : decode prog_20_method_5_code 33 = .ok (.aload_n 0, 1) := by decide +kernel
theorem s3_33 {rm : Room} {S : List Value} {H : AHeap} {Q : Option Value → AHeap → Prop} {l1 l2 l3 l4 l5 : Slot} {i : Nat} (h : W3 rm 34 [.val (.ref i), l1, l2, l3, l4, l5] (.ref i :: S) (H) Q) : W3 rm 33 [.val (.ref i), l1, l2, l3, l4, l5] (S) H Q := W.aload_n d3_33 rfl rfl h
theorem s3_33n {rm : Room} {S : List Value} {H : AHeap} {Q : Option Value → AHeap → Prop} {l1 l2 l3 l4 l5 : Slot}  (h : W3 rm 34 [.val .null, l1, l2, l3, l4, l5] (.null :: S) (H) Q) : W3 rm 33 [.val .null, l1, l2, l3, l4, l5] (S) H Q := W.aload_n d3_33 rfl rfl h
theorem d3_34 : decode prog_20_method_5_code 34 = .ok (.getfield 9, 3) := by decide +kernel
theorem s3_34 {rm : Room} {S : List Value} {H : AHeap} {Q : Option Value → AHeap → Prop} {l0 l1 l2 l3 l4 l5 : Slot} {i : Nat} {f0 f1 f2 f3 f4 : Value} (hH : H[i]? = some (.inl (0, [f0, f1, f2, f3, f4]))) (h : W3 rm 37 [l0, l1, l2, l3, l4, l5] (f0 :: S) (H) Q) : W3 rm 34 [l0, l1, l2, l3, l4, l5] (.ref i :: S) H Q := W.getF (c := 0) (j := 0) d3_34 (host := "") (Or.inl (List.mem_of_getElem? (i := 10) rfl)) (Or.inl rfl) rfl rfl hH rfl h
theorem d3_37 : decode prog_20_method_5_code 37 = .ok (.iload_n 1, 1) := by decide +kernel
theorem s3_37 {rm : Room} {S : List Value} {H : AHeap} {Q : Option Value → AHeap → Prop} {l0 l2 l3 l4 l5 : Slot} {x : Int32} (h : W3 rm 38 [l0, .val (.int x), l2, l3, l4, l5] (.int x :: S) (H) Q) : W3 rm 37 [l0, .val (.int x), l2, l3, l4, l5] (S) H Q := W.iload_n d3_37 rfl h
theorem d3_38 : decode prog_20_method_5_code 38 = .ok (.iaload, 1) := by decide +kernel
theorem s3_38 {rm : Room} {S : List Value} {H : AHeap} {Q : Option Value → AHeap → Prop} {l0 l1 l2 l3 l4 l5 : Slot} {i : Nat} {j : Int32} {vs : List Value} {v : Value} (N : Nat) (hH : H[i]? = some (.inr (.int, vs))) (hj : ix j N) (hv : vs[N]? = some v) (h : W3 rm 39 [l0, l1, l2, l3, l4, l5] (v :: S) (H) Q) : W3 rm 38 [l0, l1, l2, l3, l4, l5] (.int j :: .ref i :: S) H Q := W.xaload (Or.inl ⟨rfl, rfl⟩) d3_38 hH hj hv h
theorem d3_39 : decode prog_20_method_5_code 39 = .ok (.istore 5, 2) := by decide +kernel
theorem s3_39 {rm : Room} {S : List Value} {H : AHeap} {Q : Option Value → AHeap → Prop} {l0 l1 l2 l3 l4 l5 : Slot} {x : Int32} (ho : one l5 = true) (h : W3 rm 41 [l0, l1, l2, l3, l4, .val (.int x)] (S) (H) Q) : W3 rm 39 [l0, l1, l2, l3, l4, l5] (.int x :: S) H Q := W.istore d3_39 rfl ho h
theorem s3_39s {rm : Room} {S : List Value} {H : AHeap} {Q : Option Value → AHeap → Prop} {l0 l1 l2 l3 l4 : Slot} {x : Int32} (h : W3 rm 41 [l0, l1, l2, l3, .unset, .val (.int x)] (S) (H) Q) : W3 rm 39 [l0, l1, l2, l3, l4, .second] (.int x :: S) H Q := W.istoreS d3_39 rfl (by decide) h
theorem d3_41 : decode prog_20_method_5_code 41 = .ok (.iload 5, 2) := by decide +kernel
theorem s3_41 {rm : Room} {S : List Value} {H : AHeap} {Q : Option Value → AHeap → Prop} {l0 l1 l2 l3 l4 : Slot} {x : Int32} (h : W3 rm 43 [l0, l1, l2, l3, l4, .val (.int x)] (.int x :: S) (H) Q) : W3 rm 41 [l0, l1, l2, l3, l4, .val (.int x)] (S) H Q := W.iload d3_41 rfl h
theorem d3_43 : decode prog_20_method_5_code 43 = .ok (.ifCond .eq 24, 3) := by decide +kernel
theorem s3_43 {rm : Room} {S : List Value} {H : AHeap} {Q : Option Value → AHeap → Prop} {l0 l1 l2 l3 l4 l5 : Slot} {x : Int32} (h1 : x = 0 → W3 rm 67 [l0, l1, l2, l3, l4, l5] S H Q) (h2 : ¬ x = 0 → W3 rm 46 [l0, l1, l2, l3, l4, l5] S H Q) : W3 rm 43 [l0, l1, l2, l3, l4, l5] (.int x :: S) H Q := W.ifc d3_43 (by decide) (by decide) h1 h2
theorem d3_46 : decode prog_20_method_5_code 46 = .ok (.aload_n 3, 1) := by decide +kernel
theorem s3_46 {rm : Room} {S : List Value} {H : AHeap} {Q : Option Value → AHeap → Prop} {l0 l1 l2 l4 l5 : Slot} {i : Nat} (h : W3 rm 47 [l0, l1, l2, .val (.ref i), l4, l5] (.ref i :: S) (H) Q) : W3 rm 46 [l0, l1, l2, .val (.ref i), l4, l5] (S) H Q := W.aload_n d3_46 rfl rfl h
theorem s3_46n {rm : Room} {S : List Value} {H : AHeap} {Q : Option Value → AHeap → Prop} {l0 l1 l2 l4 l5 : Slot}  (h : W3 rm 47 [l0, l1, l2, .val .null, l4, l5] (.null :: S) (H) Q) : W3 rm 46 [l0, l1, l2, .val .null, l4, l5] (S) H Q := W.aload_n d3_46 rfl rfl h
theorem d3_47 : decode prog_20_method_5_code 47 = .ok (.iload 4, 2) := by decide +kernel
theorem s3_47 {rm : Room} {S : List Value} {H : AHeap} {Q : Option Value → AHeap → Prop} {l0 l1 l2 l3 l5 : Slot} {x : Int32} (h : W3 rm 49 [l0, l1, l2, l3, .val (.int x), l5] (.int x :: S) (H) Q) : W3 rm 47 [l0, l1, l2, l3, .val (.int x), l5] (S) H Q := W.iload d3_47 rfl h
theorem d3_49 : decode prog_20_method_5_code 49 = .ok (.iload 5, 2) := by decide +kernel
theorem s3_49 {rm : Room} {S : List Value} {H : AHeap} {Q : Option Value → AHeap → Prop} {l0 l1 l2 l3 l4 : Slot} {x : Int32} (h : W3 rm 51 [l0, l1, l2, l3, l4, .val (.int x)] (.int x :: S) (H) Q) : W3 rm 49 [l0, l1, l2, l3, l4, .val (.int x)] (S) H Q := W.iload d3_49 rfl h
theorem d3_51 : decode prog_20_method_5_code 51 = .ok (.iastore, 1) := by decide +kernel
theorem s3_51 {rm : Room} {S : List Value} {H : AHeap} {Q : Option Value → AHeap → Prop} {l0 l1 l2 l3 l4 l5 : Slot} {i : Nat} {j : Int32} {x : Int32} {vs : List Value} (N : Nat) (hH : H[i]? = some (.inr (.int, vs))) (hj : ix j N) (hl : Nat.blt N vs.length = true) (h : W3 rm 52 [l0, l1, l2, l3, l4, l5] (S) (H.set i (.inr (.int, vs.set N (.int x)))) Q) : W3 rm 51 [l0, l1, l2, l3, l4, l5] (.int x :: .int j :: .ref i :: S) H Q := W.iastore d3_51 hH hj hl h
theorem d3_52 : decode prog_20_method_5_code 52 = .ok (.iinc 4 1, 3) := by decide +kernel
theorem s3_52 {rm : Room} {S : List Value} {H : AHeap} {Q : Option Value → AHeap → Prop} {l0 l1 l2 l3 l5 : Slot} {x : Int32} (h : W3 rm 55 [l0, l1, l2, l3, .val (.int (x + 1)), l5] (S) (H) Q) : W3 rm 52 [l0, l1, l2, l3, .val (.int x), l5] (S) H Q := W.iinc d3_52 (by decide) rfl h
theorem d3_55 : decode prog_20_method_5_code 55 = .ok (.aload_n 0, 1) := by decide +kernel
theorem s3_55 {rm : Room} {S : List Value} {H : AHeap} {Q : Option Value → AHeap → Prop} {l1 l2 l3 l4 l5 : Slot} {i : Nat} (h : W3 rm 56 [.val (.ref i), l1, l2, l3, l4, l5] (.ref i :: S) (H) Q) : W3 rm 55 [.val (.ref i), l1, l2, l3, l4, l5] (S) H Q := W.aload_n d3_55 rfl rfl h
theorem s3_55n {rm : Room} {S : List Value} {H : AHeap} {Q : Option Value → AHeap → Prop} {l1 l2 l3 l4 l5 : Slot}  (h : W3 rm 56 [.val .null, l1, l2, l3, l4, l5] (.null :: S) (H) Q) : W3 rm 55 [.val .null, l1, l2, l3, l4, l5] (S) H Q := W.aload_n d3_55 rfl rfl h
theorem d3_56 : decode prog_20_method_5_code 56 = .ok (.getfield 22, 3) := by decide +kernel
theorem s3_56 {rm : Room} {S : List Value} {H : AHeap} {Q : Option Value → AHeap → Prop} {l0 l1 l2 l3 l4 l5 : Slot} {i : Nat} {f0 f1 f2 f3 f4 : Value} (hH : H[i]? = some (.inl (0, [f0, f1, f2, f3, f4]))) (h : W3 rm 59 [l0, l1, l2, l3, l4, l5] (f4 :: S) (H) Q) : W3 rm 56 [l0, l1, l2, l3, l4, l5] (.ref i :: S) H Q := W.getF (c := 0) (j := 4) d3_56 (host := "") (Or.inl (List.mem_of_getElem? (i := 18) rfl)) (Or.inl rfl) rfl rfl hH rfl h
theorem d3_59 : decode prog_20_method_5_code 59 = .ok (.iload 5, 2) := by decide +kernel
theorem s3_59 {rm : Room} {S : List Value} {H : AHeap} {Q : Option Value → AHeap → Prop} {l0 l1 l2 l3 l4 : Slot} {x : Int32} (h : W3 rm 61 [l0, l1, l2, l3, l4, .val (.int x)] (.int x :: S) (H) Q) : W3 rm 59 [l0, l1, l2, l3, l4, .val (.int x)] (S) H Q := W.iload d3_59 rfl h
theorem d3_61 : decode prog_20_method_5_code 61 = .ok (.iaload, 1) := by decide +kernel
theorem s3_61 {rm : Room} {S : List Value} {H : AHeap} {Q : Option Value → AHeap → Prop} {l0 l1 l2 l3 l4 l5 : Slot} {i : Nat} {j : Int32} {vs : List Value} {v : Value} (N : Nat) (hH : H[i]? = some (.inr (.int, vs))) (hj : ix j N) (hv : vs[N]? = some v) (h : W3 rm 62 [l0, l1, l2, l3, l4, l5] (v :: S) (H) Q) : W3 rm 61 [l0, l1, l2, l3, l4, l5] (.int j :: .ref i :: S) H Q := W.xaload (Or.inl ⟨rfl, rfl⟩) d3_61 hH hj hv h
theorem d3_62 : decode prog_20_method_5_code 62 = .ok (.istore 5, 2) := by decide +kernel
theorem s3_62 {rm : Room} {S : List Value} {H : AHeap} {Q : Option Value → AHeap → Prop} {l0 l1 l2 l3 l4 l5 : Slot} {x : Int32} (ho : one l5 = true) (h : W3 rm 64 [l0, l1, l2, l3, l4, .val (.int x)] (S) (H) Q) : W3 rm 62 [l0, l1, l2, l3, l4, l5] (.int x :: S) H Q := W.istore d3_62 rfl ho h
theorem s3_62s {rm : Room} {S : List Value} {H : AHeap} {Q : Option Value → AHeap → Prop} {l0 l1 l2 l3 l4 : Slot} {x : Int32} (h : W3 rm 64 [l0, l1, l2, l3, .unset, .val (.int x)] (S) (H) Q) : W3 rm 62 [l0, l1, l2, l3, l4, .second] (.int x :: S) H Q := W.istoreS d3_62 rfl (by decide) h
theorem d3_64 : decode prog_20_method_5_code 64 = .ok (.goto (-23), 3) := by decide +kernel
theorem s3_64 {rm : Room} {S : List Value} {H : AHeap} {Q : Option Value → AHeap → Prop} {l0 l1 l2 l3 l4 l5 : Slot}  (h : W3 rm 41 [l0, l1, l2, l3, l4, l5] (S) (H) Q) : W3 rm 64 [l0, l1, l2, l3, l4, l5] (S) H Q := W.goto d3_64 (by decide) (by decide) h
theorem d3_67 : decode prog_20_method_5_code 67 = .ok (.aload_n 3, 1) := by decide +kernel
theorem s3_67 {rm : Room} {S : List Value} {H : AHeap} {Q : Option Value → AHeap → Prop} {l0 l1 l2 l4 l5 : Slot} {i : Nat} (h : W3 rm 68 [l0, l1, l2, .val (.ref i), l4, l5] (.ref i :: S) (H) Q) : W3 rm 67 [l0, l1, l2, .val (.ref i), l4, l5] (S) H Q := W.aload_n d3_67 rfl rfl h
theorem s3_67n {rm : Room} {S : List Value} {H : AHeap} {Q : Option Value → AHeap → Prop} {l0 l1 l2 l4 l5 : Slot}  (h : W3 rm 68 [l0, l1, l2, .val .null, l4, l5] (.null :: S) (H) Q) : W3 rm 67 [l0, l1, l2, .val .null, l4, l5] (S) H Q := W.aload_n d3_67 rfl rfl h
theorem d3_68 : decode prog_20_method_5_code 68 = .ok (.areturn, 1) := by decide +kernel
theorem s3_68 {rm : Room} {S : List Value} {H : AHeap} {Q : Option Value → AHeap → Prop} {l0 l1 l2 l3 l4 l5 : Slot} {i : Nat} (hQ : Q (some (.ref i)) H) : W3 rm 68 [l0, l1, l2, l3, l4, l5] (.ref i :: S) H Q := W.areturn d3_68 rfl rfl rfl hQ
theorem e4 {rm : Room} {H : AHeap} {Q : Option Value → AHeap → Prop} {a0 : Nat} {a1 : Int32} {a2 : Int32} {a3 : Int32} {a4 : Int32} {a5 : Int32} {a6 : Int32} {a7 : Int32} (h : W4 rm 0 [.val (.ref a0), .val (.int a1), .val (.int a2), .val (.int a3), .val (.int a4), .val (.int a5), .val (.int a6), .val (.int a7), .unset, .unset] [] H Q) : M4 rm [.ref a0, .int a1, .int a2, .int a3, .int a4, .int a5, .int a6, .int a7] H Q := M.of pf4 rfl rfl h
theorem e4L {rm : Room} {H : AHeap} {Q : Option Value → AHeap → Prop} {L : List Slot} {as : List Value} (h : W4 rm 0 L [] H Q) (hl : ent as ++ List.replicate (10 - (ent as).length) .unset = L := by rfl) (hn : L.length = 10 := by rfl) : M4 rm as H Q := M.of pf4 hl hn h
theorem d4_0 : decode method_3_code 0 = .ok (.iconst 4, 1) := by decide +kernel
theorem s4_0 {rm : Room} {S : List Value} {H : AHeap} {Q : Option Value → AHeap → Prop} {l0 l1 l2 l3 l4 l5 l6 l7 l8 l9 : Slot}  (h : W4 rm 1 [l0, l1, l2, l3, l4, l5, l6, l7, l8, l9] (.int 4 :: S) (H) Q) : W4 rm 0 [l0, l1, l2, l3, l4, l5, l6, l7, l8, l9] (S) H Q := W.iconst' d4_0 (by decide) h
theorem d4_1 : decode method_3_code 1 = .ok (.newarray .int, 2) := by decide +kernel
theorem s4_1 {rm : Room} {S : List Value} {H : AHeap} {Q : Option Value → AHeap → Prop} {l0 l1 l2 l3 l4 l5 l6 l7 l8 l9 : Slot} {n : Int32} (i N : Nat) (hn : ix n N) (hi : H.length = i) (hr : nok rm N = true) (h : W4 ⟨rm.frames, rm.cells - 1, rm.slots - N, rm.locals⟩ 3 [l0, l1, l2, l3, l4, l5, l6, l7, l8, l9] (.ref i :: S) (H ++ [.inr (.int, List.replicate N (.int 0))]) Q) : W4 rm 1 [l0, l1, l2, l3, l4, l5, l6, l7, l8, l9] (.int n :: S) H Q := W.newarray (ty := .int) (d := .int 0) d4_1 rfl (List.mem_of_getElem? (i := 9) rfl) rfl hn hi hr h
theorem d4_3 : decode method_3_code 3 = .ok (.astore 8, 2) := by decide +kernel
theorem s4_3 {rm : Room} {S : List Value} {H : AHeap} {Q : Option Value → AHeap → Prop} {l0 l1 l2 l3 l4 l5 l6 l7 l8 l9 : Slot} {i : Nat} (ho : one l8 = true) (h : W4 rm 5 [l0, l1, l2, l3, l4, l5, l6, l7, .val (.ref i), l9] (S) (H) Q) : W4 rm 3 [l0, l1, l2, l3, l4, l5, l6, l7, l8, l9] (.ref i :: S) H Q := W.astore d4_3 rfl ho rfl h
theorem d4_5 : decode method_3_code 5 = .ok (.iconst 0, 1) := by decide +kernel
theorem s4_5 {rm : Room} {S : List Value} {H : AHeap} {Q : Option Value → AHeap → Prop} {l0 l1 l2 l3 l4 l5 l6 l7 l8 l9 : Slot}  (h : W4 rm 6 [l0, l1, l2, l3, l4, l5, l6, l7, l8, l9] (.int 0 :: S) (H) Q) : W4 rm 5 [l0, l1, l2, l3, l4, l5, l6, l7, l8, l9] (S) H Q := W.iconst' d4_5 (by decide) h
theorem d4_6 : decode method_3_code 6 = .ok (.istore 9, 2) := by decide +kernel
theorem s4_6 {rm : Room} {S : List Value} {H : AHeap} {Q : Option Value → AHeap → Prop} {l0 l1 l2 l3 l4 l5 l6 l7 l8 l9 : Slot} {x : Int32} (ho : one l9 = true) (h : W4 rm 8 [l0, l1, l2, l3, l4, l5, l6, l7, l8, .val (.int x)] (S) (H) Q) : W4 rm 6 [l0, l1, l2, l3, l4, l5, l6, l7, l8, l9] (.int x :: S) H Q := W.istore d4_6 rfl ho h
theorem s4_6s {rm : Room} {S : List Value} {H : AHeap} {Q : Option Value → AHeap → Prop} {l0 l1 l2 l3 l4 l5 l6 l7 l8 : Slot} {x : Int32} (h : W4 rm 8 [l0, l1, l2, l3, l4, l5, l6, l7, .unset, .val (.int x)] (S) (H) Q) : W4 rm 6 [l0, l1, l2, l3, l4, l5, l6, l7, l8, .second] (.int x :: S) H Q := W.istoreS d4_6 rfl (by decide) h
theorem d4_8 : decode method_3_code 8 = .ok (.iload_n 1, 1) := by decide +kernel
theorem s4_8 {rm : Room} {S : List Value} {H : AHeap} {Q : Option Value → AHeap → Prop} {l0 l2 l3 l4 l5 l6 l7 l8 l9 : Slot} {x : Int32} (h : W4 rm 9 [l0, .val (.int x), l2, l3, l4, l5, l6, l7, l8, l9] (.int x :: S) (H) Q) : W4 rm 8 [l0, .val (.int x), l2, l3, l4, l5, l6, l7, l8, l9] (S) H Q := W.iload_n d4_8 rfl h
theorem d4_9 : decode method_3_code 9 = .ok (.iconst 1, 1) := by decide +kernel
theorem s4_9 {rm : Room} {S : List Value} {H : AHeap} {Q : Option Value → AHeap → Prop} {l0 l1 l2 l3 l4 l5 l6 l7 l8 l9 : Slot}  (h : W4 rm 10 [l0, l1, l2, l3, l4, l5, l6, l7, l8, l9] (.int 1 :: S) (H) Q) : W4 rm 9 [l0, l1, l2, l3, l4, l5, l6, l7, l8, l9] (S) H Q := W.iconst' d4_9 (by decide) h
theorem d4_10 : decode method_3_code 10 = .ok (.if_icmp .ne 17, 3) := by decide +kernel
theorem s4_10 {rm : Room} {S : List Value} {H : AHeap} {Q : Option Value → AHeap → Prop} {l0 l1 l2 l3 l4 l5 l6 l7 l8 l9 : Slot} {x y : Int32} (h1 : ¬ x = y → W4 rm 27 [l0, l1, l2, l3, l4, l5, l6, l7, l8, l9] S H Q) (h2 : x = y → W4 rm 13 [l0, l1, l2, l3, l4, l5, l6, l7, l8, l9] S H Q) : W4 rm 10 [l0, l1, l2, l3, l4, l5, l6, l7, l8, l9] (.int y :: .int x :: S) H Q := W.icmp d4_10 (by decide) (by decide) h1 h2
theorem d4_13 : decode method_3_code 13 = .ok (.iload 4, 2) := by decide +kernel
theorem s4_13 {rm : Room} {S : List Value} {H : AHeap} {Q : Option Value → AHeap → Prop} {l0 l1 l2 l3 l5 l6 l7 l8 l9 : Slot} {x : Int32} (h : W4 rm 15 [l0, l1, l2, l3, .val (.int x), l5, l6, l7, l8, l9] (.int x :: S) (H) Q) : W4 rm 13 [l0, l1, l2, l3, .val (.int x), l5, l6, l7, l8, l9] (S) H Q := W.iload d4_13 rfl h
theorem d4_15 : decode method_3_code 15 = .ok (.ifCond .ne 12, 3) := by decide +kernel
theorem s4_15 {rm : Room} {S : List Value} {H : AHeap} {Q : Option Value → AHeap → Prop} {l0 l1 l2 l3 l4 l5 l6 l7 l8 l9 : Slot} {x : Int32} (h1 : ¬ x = 0 → W4 rm 27 [l0, l1, l2, l3, l4, l5, l6, l7, l8, l9] S H Q) (h2 : x = 0 → W4 rm 18 [l0, l1, l2, l3, l4, l5, l6, l7, l8, l9] S H Q) : W4 rm 15 [l0, l1, l2, l3, l4, l5, l6, l7, l8, l9] (.int x :: S) H Q := W.ifc d4_15 (by decide) (by decide) h1 h2
theorem d4_18 : decode method_3_code 18 = .ok (.aload 8, 2) := by decide +kernel
theorem s4_18 {rm : Room} {S : List Value} {H : AHeap} {Q : Option Value → AHeap → Prop} {l0 l1 l2 l3 l4 l5 l6 l7 l9 : Slot} {i : Nat} (h : W4 rm 20 [l0, l1, l2, l3, l4, l5, l6, l7, .val (.ref i), l9] (.ref i :: S) (H) Q) : W4 rm 18 [l0, l1, l2, l3, l4, l5, l6, l7, .val (.ref i), l9] (S) H Q := W.aload d4_18 rfl rfl h
theorem s4_18n {rm : Room} {S : List Value} {H : AHeap} {Q : Option Value → AHeap → Prop} {l0 l1 l2 l3 l4 l5 l6 l7 l9 : Slot}  (h : W4 rm 20 [l0, l1, l2, l3, l4, l5, l6, l7, .val .null, l9] (.null :: S) (H) Q) : W4 rm 18 [l0, l1, l2, l3, l4, l5, l6, l7, .val .null, l9] (S) H Q := W.aload d4_18 rfl rfl h
theorem d4_20 : decode method_3_code 20 = .ok (.iload 9, 2) := by decide +kernel
theorem s4_20 {rm : Room} {S : List Value} {H : AHeap} {Q : Option Value → AHeap → Prop} {l0 l1 l2 l3 l4 l5 l6 l7 l8 : Slot} {x : Int32} (h : W4 rm 22 [l0, l1, l2, l3, l4, l5, l6, l7, l8, .val (.int x)] (.int x :: S) (H) Q) : W4 rm 20 [l0, l1, l2, l3, l4, l5, l6, l7, l8, .val (.int x)] (S) H Q := W.iload d4_20 rfl h
theorem d4_22 : decode method_3_code 22 = .ok (.iconst 3, 1) := by decide +kernel
theorem s4_22 {rm : Room} {S : List Value} {H : AHeap} {Q : Option Value → AHeap → Prop} {l0 l1 l2 l3 l4 l5 l6 l7 l8 l9 : Slot}  (h : W4 rm 23 [l0, l1, l2, l3, l4, l5, l6, l7, l8, l9] (.int 3 :: S) (H) Q) : W4 rm 22 [l0, l1, l2, l3, l4, l5, l6, l7, l8, l9] (S) H Q := W.iconst' d4_22 (by decide) h
theorem d4_23 : decode method_3_code 23 = .ok (.iastore, 1) := by decide +kernel
theorem s4_23 {rm : Room} {S : List Value} {H : AHeap} {Q : Option Value → AHeap → Prop} {l0 l1 l2 l3 l4 l5 l6 l7 l8 l9 : Slot} {i : Nat} {j : Int32} {x : Int32} {vs : List Value} (N : Nat) (hH : H[i]? = some (.inr (.int, vs))) (hj : ix j N) (hl : Nat.blt N vs.length = true) (h : W4 rm 24 [l0, l1, l2, l3, l4, l5, l6, l7, l8, l9] (S) (H.set i (.inr (.int, vs.set N (.int x)))) Q) : W4 rm 23 [l0, l1, l2, l3, l4, l5, l6, l7, l8, l9] (.int x :: .int j :: .ref i :: S) H Q := W.iastore d4_23 hH hj hl h
theorem d4_24 : decode method_3_code 24 = .ok (.iinc 9 1, 3) := by decide +kernel
theorem s4_24 {rm : Room} {S : List Value} {H : AHeap} {Q : Option Value → AHeap → Prop} {l0 l1 l2 l3 l4 l5 l6 l7 l8 : Slot} {x : Int32} (h : W4 rm 27 [l0, l1, l2, l3, l4, l5, l6, l7, l8, .val (.int (x + 1))] (S) (H) Q) : W4 rm 24 [l0, l1, l2, l3, l4, l5, l6, l7, l8, .val (.int x)] (S) H Q := W.iinc d4_24 (by decide) rfl h
theorem d4_27 : decode method_3_code 27 = .ok (.iload_n 2, 1) := by decide +kernel
theorem s4_27 {rm : Room} {S : List Value} {H : AHeap} {Q : Option Value → AHeap → Prop} {l0 l1 l3 l4 l5 l6 l7 l8 l9 : Slot} {x : Int32} (h : W4 rm 28 [l0, l1, .val (.int x), l3, l4, l5, l6, l7, l8, l9] (.int x :: S) (H) Q) : W4 rm 27 [l0, l1, .val (.int x), l3, l4, l5, l6, l7, l8, l9] (S) H Q := W.iload_n d4_27 rfl h
theorem d4_28 : decode method_3_code 28 = .ok (.iload_n 1, 1) := by decide +kernel
theorem s4_28 {rm : Room} {S : List Value} {H : AHeap} {Q : Option Value → AHeap → Prop} {l0 l2 l3 l4 l5 l6 l7 l8 l9 : Slot} {x : Int32} (h : W4 rm 29 [l0, .val (.int x), l2, l3, l4, l5, l6, l7, l8, l9] (.int x :: S) (H) Q) : W4 rm 28 [l0, .val (.int x), l2, l3, l4, l5, l6, l7, l8, l9] (S) H Q := W.iload_n d4_28 rfl h
theorem d4_29 : decode method_3_code 29 = .ok (.if_icmp .ne 17, 3) := by decide +kernel
theorem s4_29 {rm : Room} {S : List Value} {H : AHeap} {Q : Option Value → AHeap → Prop} {l0 l1 l2 l3 l4 l5 l6 l7 l8 l9 : Slot} {x y : Int32} (h1 : ¬ x = y → W4 rm 46 [l0, l1, l2, l3, l4, l5, l6, l7, l8, l9] S H Q) (h2 : x = y → W4 rm 32 [l0, l1, l2, l3, l4, l5, l6, l7, l8, l9] S H Q) : W4 rm 29 [l0, l1, l2, l3, l4, l5, l6, l7, l8, l9] (.int y :: .int x :: S) H Q := W.icmp d4_29 (by decide) (by decide) h1 h2
theorem d4_32 : decode method_3_code 32 = .ok (.iload 5, 2) := by decide +kernel
theorem s4_32 {rm : Room} {S : List Value} {H : AHeap} {Q : Option Value → AHeap → Prop} {l0 l1 l2 l3 l4 l6 l7 l8 l9 : Slot} {x : Int32} (h : W4 rm 34 [l0, l1, l2, l3, l4, .val (.int x), l6, l7, l8, l9] (.int x :: S) (H) Q) : W4 rm 32 [l0, l1, l2, l3, l4, .val (.int x), l6, l7, l8, l9] (S) H Q := W.iload d4_32 rfl h
theorem d4_34 : decode method_3_code 34 = .ok (.ifCond .ne 12, 3) := by decide +kernel
theorem s4_34 {rm : Room} {S : List Value} {H : AHeap} {Q : Option Value → AHeap → Prop} {l0 l1 l2 l3 l4 l5 l6 l7 l8 l9 : Slot} {x : Int32} (h1 : ¬ x = 0 → W4 rm 46 [l0, l1, l2, l3, l4, l5, l6, l7, l8, l9] S H Q) (h2 : x = 0 → W4 rm 37 [l0, l1, l2, l3, l4, l5, l6, l7, l8, l9] S H Q) : W4 rm 34 [l0, l1, l2, l3, l4, l5, l6, l7, l8, l9] (.int x :: S) H Q := W.ifc d4_34 (by decide) (by decide) h1 h2
theorem d4_37 : decode method_3_code 37 = .ok (.aload 8, 2) := by decide +kernel
theorem s4_37 {rm : Room} {S : List Value} {H : AHeap} {Q : Option Value → AHeap → Prop} {l0 l1 l2 l3 l4 l5 l6 l7 l9 : Slot} {i : Nat} (h : W4 rm 39 [l0, l1, l2, l3, l4, l5, l6, l7, .val (.ref i), l9] (.ref i :: S) (H) Q) : W4 rm 37 [l0, l1, l2, l3, l4, l5, l6, l7, .val (.ref i), l9] (S) H Q := W.aload d4_37 rfl rfl h
theorem s4_37n {rm : Room} {S : List Value} {H : AHeap} {Q : Option Value → AHeap → Prop} {l0 l1 l2 l3 l4 l5 l6 l7 l9 : Slot}  (h : W4 rm 39 [l0, l1, l2, l3, l4, l5, l6, l7, .val .null, l9] (.null :: S) (H) Q) : W4 rm 37 [l0, l1, l2, l3, l4, l5, l6, l7, .val .null, l9] (S) H Q := W.aload d4_37 rfl rfl h
theorem d4_39 : decode method_3_code 39 = .ok (.iload 9, 2) := by decide +kernel
theorem s4_39 {rm : Room} {S : List Value} {H : AHeap} {Q : Option Value → AHeap → Prop} {l0 l1 l2 l3 l4 l5 l6 l7 l8 : Slot} {x : Int32} (h : W4 rm 41 [l0, l1, l2, l3, l4, l5, l6, l7, l8, .val (.int x)] (.int x :: S) (H) Q) : W4 rm 39 [l0, l1, l2, l3, l4, l5, l6, l7, l8, .val (.int x)] (S) H Q := W.iload d4_39 rfl h
theorem d4_41 : decode method_3_code 41 = .ok (.iconst 1, 1) := by decide +kernel
theorem s4_41 {rm : Room} {S : List Value} {H : AHeap} {Q : Option Value → AHeap → Prop} {l0 l1 l2 l3 l4 l5 l6 l7 l8 l9 : Slot}  (h : W4 rm 42 [l0, l1, l2, l3, l4, l5, l6, l7, l8, l9] (.int 1 :: S) (H) Q) : W4 rm 41 [l0, l1, l2, l3, l4, l5, l6, l7, l8, l9] (S) H Q := W.iconst' d4_41 (by decide) h
theorem d4_42 : decode method_3_code 42 = .ok (.iastore, 1) := by decide +kernel
theorem s4_42 {rm : Room} {S : List Value} {H : AHeap} {Q : Option Value → AHeap → Prop} {l0 l1 l2 l3 l4 l5 l6 l7 l8 l9 : Slot} {i : Nat} {j : Int32} {x : Int32} {vs : List Value} (N : Nat) (hH : H[i]? = some (.inr (.int, vs))) (hj : ix j N) (hl : Nat.blt N vs.length = true) (h : W4 rm 43 [l0, l1, l2, l3, l4, l5, l6, l7, l8, l9] (S) (H.set i (.inr (.int, vs.set N (.int x)))) Q) : W4 rm 42 [l0, l1, l2, l3, l4, l5, l6, l7, l8, l9] (.int x :: .int j :: .ref i :: S) H Q := W.iastore d4_42 hH hj hl h
theorem d4_43 : decode method_3_code 43 = .ok (.iinc 9 1, 3) := by decide +kernel
theorem s4_43 {rm : Room} {S : List Value} {H : AHeap} {Q : Option Value → AHeap → Prop} {l0 l1 l2 l3 l4 l5 l6 l7 l8 : Slot} {x : Int32} (h : W4 rm 46 [l0, l1, l2, l3, l4, l5, l6, l7, l8, .val (.int (x + 1))] (S) (H) Q) : W4 rm 43 [l0, l1, l2, l3, l4, l5, l6, l7, l8, .val (.int x)] (S) H Q := W.iinc d4_43 (by decide) rfl h
theorem d4_46 : decode method_3_code 46 = .ok (.iload_n 3, 1) := by decide +kernel
theorem s4_46 {rm : Room} {S : List Value} {H : AHeap} {Q : Option Value → AHeap → Prop} {l0 l1 l2 l4 l5 l6 l7 l8 l9 : Slot} {x : Int32} (h : W4 rm 47 [l0, l1, l2, .val (.int x), l4, l5, l6, l7, l8, l9] (.int x :: S) (H) Q) : W4 rm 46 [l0, l1, l2, .val (.int x), l4, l5, l6, l7, l8, l9] (S) H Q := W.iload_n d4_46 rfl h
theorem d4_47 : decode method_3_code 47 = .ok (.iload_n 1, 1) := by decide +kernel
theorem s4_47 {rm : Room} {S : List Value} {H : AHeap} {Q : Option Value → AHeap → Prop} {l0 l2 l3 l4 l5 l6 l7 l8 l9 : Slot} {x : Int32} (h : W4 rm 48 [l0, .val (.int x), l2, l3, l4, l5, l6, l7, l8, l9] (.int x :: S) (H) Q) : W4 rm 47 [l0, .val (.int x), l2, l3, l4, l5, l6, l7, l8, l9] (S) H Q := W.iload_n d4_47 rfl h
theorem d4_48 : decode method_3_code 48 = .ok (.if_icmp .ne 17, 3) := by decide +kernel
theorem s4_48 {rm : Room} {S : List Value} {H : AHeap} {Q : Option Value → AHeap → Prop} {l0 l1 l2 l3 l4 l5 l6 l7 l8 l9 : Slot} {x y : Int32} (h1 : ¬ x = y → W4 rm 65 [l0, l1, l2, l3, l4, l5, l6, l7, l8, l9] S H Q) (h2 : x = y → W4 rm 51 [l0, l1, l2, l3, l4, l5, l6, l7, l8, l9] S H Q) : W4 rm 48 [l0, l1, l2, l3, l4, l5, l6, l7, l8, l9] (.int y :: .int x :: S) H Q := W.icmp d4_48 (by decide) (by decide) h1 h2
theorem d4_51 : decode method_3_code 51 = .ok (.iload 6, 2) := by decide +kernel
theorem s4_51 {rm : Room} {S : List Value} {H : AHeap} {Q : Option Value → AHeap → Prop} {l0 l1 l2 l3 l4 l5 l7 l8 l9 : Slot} {x : Int32} (h : W4 rm 53 [l0, l1, l2, l3, l4, l5, .val (.int x), l7, l8, l9] (.int x :: S) (H) Q) : W4 rm 51 [l0, l1, l2, l3, l4, l5, .val (.int x), l7, l8, l9] (S) H Q := W.iload d4_51 rfl h
theorem d4_53 : decode method_3_code 53 = .ok (.ifCond .ne 12, 3) := by decide +kernel
theorem s4_53 {rm : Room} {S : List Value} {H : AHeap} {Q : Option Value → AHeap → Prop} {l0 l1 l2 l3 l4 l5 l6 l7 l8 l9 : Slot} {x : Int32} (h1 : ¬ x = 0 → W4 rm 65 [l0, l1, l2, l3, l4, l5, l6, l7, l8, l9] S H Q) (h2 : x = 0 → W4 rm 56 [l0, l1, l2, l3, l4, l5, l6, l7, l8, l9] S H Q) : W4 rm 53 [l0, l1, l2, l3, l4, l5, l6, l7, l8, l9] (.int x :: S) H Q := W.ifc d4_53 (by decide) (by decide) h1 h2
theorem d4_56 : decode method_3_code 56 = .ok (.aload 8, 2) := by decide +kernel
theorem s4_56 {rm : Room} {S : List Value} {H : AHeap} {Q : Option Value → AHeap → Prop} {l0 l1 l2 l3 l4 l5 l6 l7 l9 : Slot} {i : Nat} (h : W4 rm 58 [l0, l1, l2, l3, l4, l5, l6, l7, .val (.ref i), l9] (.ref i :: S) (H) Q) : W4 rm 56 [l0, l1, l2, l3, l4, l5, l6, l7, .val (.ref i), l9] (S) H Q := W.aload d4_56 rfl rfl h
theorem s4_56n {rm : Room} {S : List Value} {H : AHeap} {Q : Option Value → AHeap → Prop} {l0 l1 l2 l3 l4 l5 l6 l7 l9 : Slot}  (h : W4 rm 58 [l0, l1, l2, l3, l4, l5, l6, l7, .val .null, l9] (.null :: S) (H) Q) : W4 rm 56 [l0, l1, l2, l3, l4, l5, l6, l7, .val .null, l9] (S) H Q := W.aload d4_56 rfl rfl h
theorem d4_58 : decode method_3_code 58 = .ok (.iload 9, 2) := by decide +kernel
theorem s4_58 {rm : Room} {S : List Value} {H : AHeap} {Q : Option Value → AHeap → Prop} {l0 l1 l2 l3 l4 l5 l6 l7 l8 : Slot} {x : Int32} (h : W4 rm 60 [l0, l1, l2, l3, l4, l5, l6, l7, l8, .val (.int x)] (.int x :: S) (H) Q) : W4 rm 58 [l0, l1, l2, l3, l4, l5, l6, l7, l8, .val (.int x)] (S) H Q := W.iload d4_58 rfl h
theorem d4_60 : decode method_3_code 60 = .ok (.iconst 2, 1) := by decide +kernel
theorem s4_60 {rm : Room} {S : List Value} {H : AHeap} {Q : Option Value → AHeap → Prop} {l0 l1 l2 l3 l4 l5 l6 l7 l8 l9 : Slot}  (h : W4 rm 61 [l0, l1, l2, l3, l4, l5, l6, l7, l8, l9] (.int 2 :: S) (H) Q) : W4 rm 60 [l0, l1, l2, l3, l4, l5, l6, l7, l8, l9] (S) H Q := W.iconst' d4_60 (by decide) h
theorem d4_61 : decode method_3_code 61 = .ok (.iastore, 1) := by decide +kernel
theorem s4_61 {rm : Room} {S : List Value} {H : AHeap} {Q : Option Value → AHeap → Prop} {l0 l1 l2 l3 l4 l5 l6 l7 l8 l9 : Slot} {i : Nat} {j : Int32} {x : Int32} {vs : List Value} (N : Nat) (hH : H[i]? = some (.inr (.int, vs))) (hj : ix j N) (hl : Nat.blt N vs.length = true) (h : W4 rm 62 [l0, l1, l2, l3, l4, l5, l6, l7, l8, l9] (S) (H.set i (.inr (.int, vs.set N (.int x)))) Q) : W4 rm 61 [l0, l1, l2, l3, l4, l5, l6, l7, l8, l9] (.int x :: .int j :: .ref i :: S) H Q := W.iastore d4_61 hH hj hl h
theorem d4_62 : decode method_3_code 62 = .ok (.iinc 9 1, 3) := by decide +kernel
theorem s4_62 {rm : Room} {S : List Value} {H : AHeap} {Q : Option Value → AHeap → Prop} {l0 l1 l2 l3 l4 l5 l6 l7 l8 : Slot} {x : Int32} (h : W4 rm 65 [l0, l1, l2, l3, l4, l5, l6, l7, l8, .val (.int (x + 1))] (S) (H) Q) : W4 rm 62 [l0, l1, l2, l3, l4, l5, l6, l7, l8, .val (.int x)] (S) H Q := W.iinc d4_62 (by decide) rfl h
theorem d4_65 : decode method_3_code 65 = .ok (.iload 7, 2) := by decide +kernel
theorem s4_65 {rm : Room} {S : List Value} {H : AHeap} {Q : Option Value → AHeap → Prop} {l0 l1 l2 l3 l4 l5 l6 l8 l9 : Slot} {x : Int32} (h : W4 rm 67 [l0, l1, l2, l3, l4, l5, l6, .val (.int x), l8, l9] (.int x :: S) (H) Q) : W4 rm 65 [l0, l1, l2, l3, l4, l5, l6, .val (.int x), l8, l9] (S) H Q := W.iload d4_65 rfl h
theorem d4_67 : decode method_3_code 67 = .ok (.ifCond .eq 17, 3) := by decide +kernel
theorem s4_67 {rm : Room} {S : List Value} {H : AHeap} {Q : Option Value → AHeap → Prop} {l0 l1 l2 l3 l4 l5 l6 l7 l8 l9 : Slot} {x : Int32} (h1 : x = 0 → W4 rm 84 [l0, l1, l2, l3, l4, l5, l6, l7, l8, l9] S H Q) (h2 : ¬ x = 0 → W4 rm 70 [l0, l1, l2, l3, l4, l5, l6, l7, l8, l9] S H Q) : W4 rm 67 [l0, l1, l2, l3, l4, l5, l6, l7, l8, l9] (.int x :: S) H Q := W.ifc d4_67 (by decide) (by decide) h1 h2
theorem d4_70 : decode method_3_code 70 = .ok (.iload_n 1, 1) := by decide +kernel
theorem s4_70 {rm : Room} {S : List Value} {H : AHeap} {Q : Option Value → AHeap → Prop} {l0 l2 l3 l4 l5 l6 l7 l8 l9 : Slot} {x : Int32} (h : W4 rm 71 [l0, .val (.int x), l2, l3, l4, l5, l6, l7, l8, l9] (.int x :: S) (H) Q) : W4 rm 70 [l0, .val (.int x), l2, l3, l4, l5, l6, l7, l8, l9] (S) H Q := W.iload_n d4_70 rfl h
theorem d4_71 : decode method_3_code 71 = .ok (.iconst 1, 1) := by decide +kernel
theorem s4_71 {rm : Room} {S : List Value} {H : AHeap} {Q : Option Value → AHeap → Prop} {l0 l1 l2 l3 l4 l5 l6 l7 l8 l9 : Slot}  (h : W4 rm 72 [l0, l1, l2, l3, l4, l5, l6, l7, l8, l9] (.int 1 :: S) (H) Q) : W4 rm 71 [l0, l1, l2, l3, l4, l5, l6, l7, l8, l9] (S) H Q := W.iconst' d4_71 (by decide) h
theorem d4_72 : decode method_3_code 72 = .ok (.if_icmp .ne 12, 3) := by decide +kernel
theorem s4_72 {rm : Room} {S : List Value} {H : AHeap} {Q : Option Value → AHeap → Prop} {l0 l1 l2 l3 l4 l5 l6 l7 l8 l9 : Slot} {x y : Int32} (h1 : ¬ x = y → W4 rm 84 [l0, l1, l2, l3, l4, l5, l6, l7, l8, l9] S H Q) (h2 : x = y → W4 rm 75 [l0, l1, l2, l3, l4, l5, l6, l7, l8, l9] S H Q) : W4 rm 72 [l0, l1, l2, l3, l4, l5, l6, l7, l8, l9] (.int y :: .int x :: S) H Q := W.icmp d4_72 (by decide) (by decide) h1 h2
theorem d4_75 : decode method_3_code 75 = .ok (.aload 8, 2) := by decide +kernel
theorem s4_75 {rm : Room} {S : List Value} {H : AHeap} {Q : Option Value → AHeap → Prop} {l0 l1 l2 l3 l4 l5 l6 l7 l9 : Slot} {i : Nat} (h : W4 rm 77 [l0, l1, l2, l3, l4, l5, l6, l7, .val (.ref i), l9] (.ref i :: S) (H) Q) : W4 rm 75 [l0, l1, l2, l3, l4, l5, l6, l7, .val (.ref i), l9] (S) H Q := W.aload d4_75 rfl rfl h
theorem s4_75n {rm : Room} {S : List Value} {H : AHeap} {Q : Option Value → AHeap → Prop} {l0 l1 l2 l3 l4 l5 l6 l7 l9 : Slot}  (h : W4 rm 77 [l0, l1, l2, l3, l4, l5, l6, l7, .val .null, l9] (.null :: S) (H) Q) : W4 rm 75 [l0, l1, l2, l3, l4, l5, l6, l7, .val .null, l9] (S) H Q := W.aload d4_75 rfl rfl h
theorem d4_77 : decode method_3_code 77 = .ok (.iload 9, 2) := by decide +kernel
theorem s4_77 {rm : Room} {S : List Value} {H : AHeap} {Q : Option Value → AHeap → Prop} {l0 l1 l2 l3 l4 l5 l6 l7 l8 : Slot} {x : Int32} (h : W4 rm 79 [l0, l1, l2, l3, l4, l5, l6, l7, l8, .val (.int x)] (.int x :: S) (H) Q) : W4 rm 77 [l0, l1, l2, l3, l4, l5, l6, l7, l8, .val (.int x)] (S) H Q := W.iload d4_77 rfl h
theorem d4_79 : decode method_3_code 79 = .ok (.iconst 1, 1) := by decide +kernel
theorem s4_79 {rm : Room} {S : List Value} {H : AHeap} {Q : Option Value → AHeap → Prop} {l0 l1 l2 l3 l4 l5 l6 l7 l8 l9 : Slot}  (h : W4 rm 80 [l0, l1, l2, l3, l4, l5, l6, l7, l8, l9] (.int 1 :: S) (H) Q) : W4 rm 79 [l0, l1, l2, l3, l4, l5, l6, l7, l8, l9] (S) H Q := W.iconst' d4_79 (by decide) h
theorem d4_80 : decode method_3_code 80 = .ok (.iastore, 1) := by decide +kernel
theorem s4_80 {rm : Room} {S : List Value} {H : AHeap} {Q : Option Value → AHeap → Prop} {l0 l1 l2 l3 l4 l5 l6 l7 l8 l9 : Slot} {i : Nat} {j : Int32} {x : Int32} {vs : List Value} (N : Nat) (hH : H[i]? = some (.inr (.int, vs))) (hj : ix j N) (hl : Nat.blt N vs.length = true) (h : W4 rm 81 [l0, l1, l2, l3, l4, l5, l6, l7, l8, l9] (S) (H.set i (.inr (.int, vs.set N (.int x)))) Q) : W4 rm 80 [l0, l1, l2, l3, l4, l5, l6, l7, l8, l9] (.int x :: .int j :: .ref i :: S) H Q := W.iastore d4_80 hH hj hl h
theorem d4_81 : decode method_3_code 81 = .ok (.iinc 9 1, 3) := by decide +kernel
theorem s4_81 {rm : Room} {S : List Value} {H : AHeap} {Q : Option Value → AHeap → Prop} {l0 l1 l2 l3 l4 l5 l6 l7 l8 : Slot} {x : Int32} (h : W4 rm 84 [l0, l1, l2, l3, l4, l5, l6, l7, l8, .val (.int (x + 1))] (S) (H) Q) : W4 rm 81 [l0, l1, l2, l3, l4, l5, l6, l7, l8, .val (.int x)] (S) H Q := W.iinc d4_81 (by decide) rfl h
theorem d4_84 : decode method_3_code 84 = .ok (.aload_n 0, 1) := by decide +kernel
theorem s4_84 {rm : Room} {S : List Value} {H : AHeap} {Q : Option Value → AHeap → Prop} {l1 l2 l3 l4 l5 l6 l7 l8 l9 : Slot} {i : Nat} (h : W4 rm 85 [.val (.ref i), l1, l2, l3, l4, l5, l6, l7, l8, l9] (.ref i :: S) (H) Q) : W4 rm 84 [.val (.ref i), l1, l2, l3, l4, l5, l6, l7, l8, l9] (S) H Q := W.aload_n d4_84 rfl rfl h
theorem s4_84n {rm : Room} {S : List Value} {H : AHeap} {Q : Option Value → AHeap → Prop} {l1 l2 l3 l4 l5 l6 l7 l8 l9 : Slot}  (h : W4 rm 85 [.val .null, l1, l2, l3, l4, l5, l6, l7, l8, l9] (.null :: S) (H) Q) : W4 rm 84 [.val .null, l1, l2, l3, l4, l5, l6, l7, l8, l9] (S) H Q := W.aload_n d4_84 rfl rfl h
theorem d4_85 : decode method_3_code 85 = .ok (.arraylength, 1) := by decide +kernel
theorem s4_85 {rm : Room} {S : List Value} {H : AHeap} {Q : Option Value → AHeap → Prop} {l0 l1 l2 l3 l4 l5 l6 l7 l8 l9 : Slot} {i : Nat} {ty : FieldType} {vs : List Value} (hH : H[i]? = some (.inr (ty, vs))) (h : W4 rm 86 [l0, l1, l2, l3, l4, l5, l6, l7, l8, l9] (.int (Int32.ofNat vs.length) :: S) (H) Q) : W4 rm 85 [l0, l1, l2, l3, l4, l5, l6, l7, l8, l9] (.ref i :: S) H Q := W.arraylength d4_85 hH h
theorem s4_85k {rm : Room} {S : List Value} {H : AHeap} {Q : Option Value → AHeap → Prop} {l0 l1 l2 l3 l4 l5 l6 l7 l8 l9 : Slot} {i : Nat} {ty : FieldType} {vs : List Value} (n : Int32) (hH : H[i]? = some (.inr (ty, vs))) (hn : Int32.ofNat vs.length = n) (h : W4 rm 86 [l0, l1, l2, l3, l4, l5, l6, l7, l8, l9] (.int n :: S) (H) Q) : W4 rm 85 [l0, l1, l2, l3, l4, l5, l6, l7, l8, l9] (.ref i :: S) H Q := W.arraylength d4_85 hH (by rw [hn]; exact h)
theorem d4_86 : decode method_3_code 86 = .ok (.iload 9, 2) := by decide +kernel
theorem s4_86 {rm : Room} {S : List Value} {H : AHeap} {Q : Option Value → AHeap → Prop} {l0 l1 l2 l3 l4 l5 l6 l7 l8 : Slot} {x : Int32} (h : W4 rm 88 [l0, l1, l2, l3, l4, l5, l6, l7, l8, .val (.int x)] (.int x :: S) (H) Q) : W4 rm 86 [l0, l1, l2, l3, l4, l5, l6, l7, l8, .val (.int x)] (S) H Q := W.iload d4_86 rfl h
theorem d4_88 : decode method_3_code 88 = .ok (.if_icmp .ne 71, 3) := by decide +kernel
theorem s4_88 {rm : Room} {S : List Value} {H : AHeap} {Q : Option Value → AHeap → Prop} {l0 l1 l2 l3 l4 l5 l6 l7 l8 l9 : Slot} {x y : Int32} (h1 : ¬ x = y → W4 rm 159 [l0, l1, l2, l3, l4, l5, l6, l7, l8, l9] S H Q) (h2 : x = y → W4 rm 91 [l0, l1, l2, l3, l4, l5, l6, l7, l8, l9] S H Q) : W4 rm 88 [l0, l1, l2, l3, l4, l5, l6, l7, l8, l9] (.int y :: .int x :: S) H Q := W.icmp d4_88 (by decide) (by decide) h1 h2
theorem d4_91 : decode method_3_code 91 = .ok (.iload 9, 2) := by decide +kernel
theorem s4_91 {rm : Room} {S : List Value} {H : AHeap} {Q : Option Value → AHeap → Prop} {l0 l1 l2 l3 l4 l5 l6 l7 l8 : Slot} {x : Int32} (h : W4 rm 93 [l0, l1, l2, l3, l4, l5, l6, l7, l8, .val (.int x)] (.int x :: S) (H) Q) : W4 rm 91 [l0, l1, l2, l3, l4, l5, l6, l7, l8, .val (.int x)] (S) H Q := W.iload d4_91 rfl h
theorem d4_93 : decode method_3_code 93 = .ok (.iconst 1, 1) := by decide +kernel
theorem s4_93 {rm : Room} {S : List Value} {H : AHeap} {Q : Option Value → AHeap → Prop} {l0 l1 l2 l3 l4 l5 l6 l7 l8 l9 : Slot}  (h : W4 rm 94 [l0, l1, l2, l3, l4, l5, l6, l7, l8, l9] (.int 1 :: S) (H) Q) : W4 rm 93 [l0, l1, l2, l3, l4, l5, l6, l7, l8, l9] (S) H Q := W.iconst' d4_93 (by decide) h
theorem d4_94 : decode method_3_code 94 = .ok (.if_icmp .lt 13, 3) := by decide +kernel
theorem s4_94 {rm : Room} {S : List Value} {H : AHeap} {Q : Option Value → AHeap → Prop} {l0 l1 l2 l3 l4 l5 l6 l7 l8 l9 : Slot} {x y : Int32} (h1 : x < y → W4 rm 107 [l0, l1, l2, l3, l4, l5, l6, l7, l8, l9] S H Q) (h2 : ¬ x < y → W4 rm 97 [l0, l1, l2, l3, l4, l5, l6, l7, l8, l9] S H Q) : W4 rm 94 [l0, l1, l2, l3, l4, l5, l6, l7, l8, l9] (.int y :: .int x :: S) H Q := W.icmp d4_94 (by decide) (by decide) h1 h2
theorem d4_97 : decode method_3_code 97 = .ok (.aload_n 0, 1) := by decide +kernel
theorem s4_97 {rm : Room} {S : List Value} {H : AHeap} {Q : Option Value → AHeap → Prop} {l1 l2 l3 l4 l5 l6 l7 l8 l9 : Slot} {i : Nat} (h : W4 rm 98 [.val (.ref i), l1, l2, l3, l4, l5, l6, l7, l8, l9] (.ref i :: S) (H) Q) : W4 rm 97 [.val (.ref i), l1, l2, l3, l4, l5, l6, l7, l8, l9] (S) H Q := W.aload_n d4_97 rfl rfl h
theorem s4_97n {rm : Room} {S : List Value} {H : AHeap} {Q : Option Value → AHeap → Prop} {l1 l2 l3 l4 l5 l6 l7 l8 l9 : Slot}  (h : W4 rm 98 [.val .null, l1, l2, l3, l4, l5, l6, l7, l8, l9] (.null :: S) (H) Q) : W4 rm 97 [.val .null, l1, l2, l3, l4, l5, l6, l7, l8, l9] (S) H Q := W.aload_n d4_97 rfl rfl h
theorem d4_98 : decode method_3_code 98 = .ok (.iconst 0, 1) := by decide +kernel
theorem s4_98 {rm : Room} {S : List Value} {H : AHeap} {Q : Option Value → AHeap → Prop} {l0 l1 l2 l3 l4 l5 l6 l7 l8 l9 : Slot}  (h : W4 rm 99 [l0, l1, l2, l3, l4, l5, l6, l7, l8, l9] (.int 0 :: S) (H) Q) : W4 rm 98 [l0, l1, l2, l3, l4, l5, l6, l7, l8, l9] (S) H Q := W.iconst' d4_98 (by decide) h
theorem d4_99 : decode method_3_code 99 = .ok (.iaload, 1) := by decide +kernel
theorem s4_99 {rm : Room} {S : List Value} {H : AHeap} {Q : Option Value → AHeap → Prop} {l0 l1 l2 l3 l4 l5 l6 l7 l8 l9 : Slot} {i : Nat} {j : Int32} {vs : List Value} {v : Value} (N : Nat) (hH : H[i]? = some (.inr (.int, vs))) (hj : ix j N) (hv : vs[N]? = some v) (h : W4 rm 100 [l0, l1, l2, l3, l4, l5, l6, l7, l8, l9] (v :: S) (H) Q) : W4 rm 99 [l0, l1, l2, l3, l4, l5, l6, l7, l8, l9] (.int j :: .ref i :: S) H Q := W.xaload (Or.inl ⟨rfl, rfl⟩) d4_99 hH hj hv h
theorem d4_100 : decode method_3_code 100 = .ok (.aload 8, 2) := by decide +kernel
theorem s4_100 {rm : Room} {S : List Value} {H : AHeap} {Q : Option Value → AHeap → Prop} {l0 l1 l2 l3 l4 l5 l6 l7 l9 : Slot} {i : Nat} (h : W4 rm 102 [l0, l1, l2, l3, l4, l5, l6, l7, .val (.ref i), l9] (.ref i :: S) (H) Q) : W4 rm 100 [l0, l1, l2, l3, l4, l5, l6, l7, .val (.ref i), l9] (S) H Q := W.aload d4_100 rfl rfl h
theorem s4_100n {rm : Room} {S : List Value} {H : AHeap} {Q : Option Value → AHeap → Prop} {l0 l1 l2 l3 l4 l5 l6 l7 l9 : Slot}  (h : W4 rm 102 [l0, l1, l2, l3, l4, l5, l6, l7, .val .null, l9] (.null :: S) (H) Q) : W4 rm 100 [l0, l1, l2, l3, l4, l5, l6, l7, .val .null, l9] (S) H Q := W.aload d4_100 rfl rfl h
theorem d4_102 : decode method_3_code 102 = .ok (.iconst 0, 1) := by decide +kernel
theorem s4_102 {rm : Room} {S : List Value} {H : AHeap} {Q : Option Value → AHeap → Prop} {l0 l1 l2 l3 l4 l5 l6 l7 l8 l9 : Slot}  (h : W4 rm 103 [l0, l1, l2, l3, l4, l5, l6, l7, l8, l9] (.int 0 :: S) (H) Q) : W4 rm 102 [l0, l1, l2, l3, l4, l5, l6, l7, l8, l9] (S) H Q := W.iconst' d4_102 (by decide) h
theorem d4_103 : decode method_3_code 103 = .ok (.iaload, 1) := by decide +kernel
theorem s4_103 {rm : Room} {S : List Value} {H : AHeap} {Q : Option Value → AHeap → Prop} {l0 l1 l2 l3 l4 l5 l6 l7 l8 l9 : Slot} {i : Nat} {j : Int32} {vs : List Value} {v : Value} (N : Nat) (hH : H[i]? = some (.inr (.int, vs))) (hj : ix j N) (hv : vs[N]? = some v) (h : W4 rm 104 [l0, l1, l2, l3, l4, l5, l6, l7, l8, l9] (v :: S) (H) Q) : W4 rm 103 [l0, l1, l2, l3, l4, l5, l6, l7, l8, l9] (.int j :: .ref i :: S) H Q := W.xaload (Or.inl ⟨rfl, rfl⟩) d4_103 hH hj hv h
theorem d4_104 : decode method_3_code 104 = .ok (.if_icmp .ne 55, 3) := by decide +kernel
theorem s4_104 {rm : Room} {S : List Value} {H : AHeap} {Q : Option Value → AHeap → Prop} {l0 l1 l2 l3 l4 l5 l6 l7 l8 l9 : Slot} {x y : Int32} (h1 : ¬ x = y → W4 rm 159 [l0, l1, l2, l3, l4, l5, l6, l7, l8, l9] S H Q) (h2 : x = y → W4 rm 107 [l0, l1, l2, l3, l4, l5, l6, l7, l8, l9] S H Q) : W4 rm 104 [l0, l1, l2, l3, l4, l5, l6, l7, l8, l9] (.int y :: .int x :: S) H Q := W.icmp d4_104 (by decide) (by decide) h1 h2
theorem d4_107 : decode method_3_code 107 = .ok (.iload 9, 2) := by decide +kernel
theorem s4_107 {rm : Room} {S : List Value} {H : AHeap} {Q : Option Value → AHeap → Prop} {l0 l1 l2 l3 l4 l5 l6 l7 l8 : Slot} {x : Int32} (h : W4 rm 109 [l0, l1, l2, l3, l4, l5, l6, l7, l8, .val (.int x)] (.int x :: S) (H) Q) : W4 rm 107 [l0, l1, l2, l3, l4, l5, l6, l7, l8, .val (.int x)] (S) H Q := W.iload d4_107 rfl h
theorem d4_109 : decode method_3_code 109 = .ok (.iconst 2, 1) := by decide +kernel
theorem s4_109 {rm : Room} {S : List Value} {H : AHeap} {Q : Option Value → AHeap → Prop} {l0 l1 l2 l3 l4 l5 l6 l7 l8 l9 : Slot}  (h : W4 rm 110 [l0, l1, l2, l3, l4, l5, l6, l7, l8, l9] (.int 2 :: S) (H) Q) : W4 rm 109 [l0, l1, l2, l3, l4, l5, l6, l7, l8, l9] (S) H Q := W.iconst' d4_109 (by decide) h
theorem d4_110 : decode method_3_code 110 = .ok (.if_icmp .lt 13, 3) := by decide +kernel
theorem s4_110 {rm : Room} {S : List Value} {H : AHeap} {Q : Option Value → AHeap → Prop} {l0 l1 l2 l3 l4 l5 l6 l7 l8 l9 : Slot} {x y : Int32} (h1 : x < y → W4 rm 123 [l0, l1, l2, l3, l4, l5, l6, l7, l8, l9] S H Q) (h2 : ¬ x < y → W4 rm 113 [l0, l1, l2, l3, l4, l5, l6, l7, l8, l9] S H Q) : W4 rm 110 [l0, l1, l2, l3, l4, l5, l6, l7, l8, l9] (.int y :: .int x :: S) H Q := W.icmp d4_110 (by decide) (by decide) h1 h2
theorem d4_113 : decode method_3_code 113 = .ok (.aload_n 0, 1) := by decide +kernel
theorem s4_113 {rm : Room} {S : List Value} {H : AHeap} {Q : Option Value → AHeap → Prop} {l1 l2 l3 l4 l5 l6 l7 l8 l9 : Slot} {i : Nat} (h : W4 rm 114 [.val (.ref i), l1, l2, l3, l4, l5, l6, l7, l8, l9] (.ref i :: S) (H) Q) : W4 rm 113 [.val (.ref i), l1, l2, l3, l4, l5, l6, l7, l8, l9] (S) H Q := W.aload_n d4_113 rfl rfl h
theorem s4_113n {rm : Room} {S : List Value} {H : AHeap} {Q : Option Value → AHeap → Prop} {l1 l2 l3 l4 l5 l6 l7 l8 l9 : Slot}  (h : W4 rm 114 [.val .null, l1, l2, l3, l4, l5, l6, l7, l8, l9] (.null :: S) (H) Q) : W4 rm 113 [.val .null, l1, l2, l3, l4, l5, l6, l7, l8, l9] (S) H Q := W.aload_n d4_113 rfl rfl h
theorem d4_114 : decode method_3_code 114 = .ok (.iconst 1, 1) := by decide +kernel
theorem s4_114 {rm : Room} {S : List Value} {H : AHeap} {Q : Option Value → AHeap → Prop} {l0 l1 l2 l3 l4 l5 l6 l7 l8 l9 : Slot}  (h : W4 rm 115 [l0, l1, l2, l3, l4, l5, l6, l7, l8, l9] (.int 1 :: S) (H) Q) : W4 rm 114 [l0, l1, l2, l3, l4, l5, l6, l7, l8, l9] (S) H Q := W.iconst' d4_114 (by decide) h
theorem d4_115 : decode method_3_code 115 = .ok (.iaload, 1) := by decide +kernel
theorem s4_115 {rm : Room} {S : List Value} {H : AHeap} {Q : Option Value → AHeap → Prop} {l0 l1 l2 l3 l4 l5 l6 l7 l8 l9 : Slot} {i : Nat} {j : Int32} {vs : List Value} {v : Value} (N : Nat) (hH : H[i]? = some (.inr (.int, vs))) (hj : ix j N) (hv : vs[N]? = some v) (h : W4 rm 116 [l0, l1, l2, l3, l4, l5, l6, l7, l8, l9] (v :: S) (H) Q) : W4 rm 115 [l0, l1, l2, l3, l4, l5, l6, l7, l8, l9] (.int j :: .ref i :: S) H Q := W.xaload (Or.inl ⟨rfl, rfl⟩) d4_115 hH hj hv h
theorem d4_116 : decode method_3_code 116 = .ok (.aload 8, 2) := by decide +kernel
theorem s4_116 {rm : Room} {S : List Value} {H : AHeap} {Q : Option Value → AHeap → Prop} {l0 l1 l2 l3 l4 l5 l6 l7 l9 : Slot} {i : Nat} (h : W4 rm 118 [l0, l1, l2, l3, l4, l5, l6, l7, .val (.ref i), l9] (.ref i :: S) (H) Q) : W4 rm 116 [l0, l1, l2, l3, l4, l5, l6, l7, .val (.ref i), l9] (S) H Q := W.aload d4_116 rfl rfl h
theorem s4_116n {rm : Room} {S : List Value} {H : AHeap} {Q : Option Value → AHeap → Prop} {l0 l1 l2 l3 l4 l5 l6 l7 l9 : Slot}  (h : W4 rm 118 [l0, l1, l2, l3, l4, l5, l6, l7, .val .null, l9] (.null :: S) (H) Q) : W4 rm 116 [l0, l1, l2, l3, l4, l5, l6, l7, .val .null, l9] (S) H Q := W.aload d4_116 rfl rfl h
theorem d4_118 : decode method_3_code 118 = .ok (.iconst 1, 1) := by decide +kernel
theorem s4_118 {rm : Room} {S : List Value} {H : AHeap} {Q : Option Value → AHeap → Prop} {l0 l1 l2 l3 l4 l5 l6 l7 l8 l9 : Slot}  (h : W4 rm 119 [l0, l1, l2, l3, l4, l5, l6, l7, l8, l9] (.int 1 :: S) (H) Q) : W4 rm 118 [l0, l1, l2, l3, l4, l5, l6, l7, l8, l9] (S) H Q := W.iconst' d4_118 (by decide) h
theorem d4_119 : decode method_3_code 119 = .ok (.iaload, 1) := by decide +kernel
theorem s4_119 {rm : Room} {S : List Value} {H : AHeap} {Q : Option Value → AHeap → Prop} {l0 l1 l2 l3 l4 l5 l6 l7 l8 l9 : Slot} {i : Nat} {j : Int32} {vs : List Value} {v : Value} (N : Nat) (hH : H[i]? = some (.inr (.int, vs))) (hj : ix j N) (hv : vs[N]? = some v) (h : W4 rm 120 [l0, l1, l2, l3, l4, l5, l6, l7, l8, l9] (v :: S) (H) Q) : W4 rm 119 [l0, l1, l2, l3, l4, l5, l6, l7, l8, l9] (.int j :: .ref i :: S) H Q := W.xaload (Or.inl ⟨rfl, rfl⟩) d4_119 hH hj hv h
theorem d4_120 : decode method_3_code 120 = .ok (.if_icmp .ne 39, 3) := by decide +kernel
theorem s4_120 {rm : Room} {S : List Value} {H : AHeap} {Q : Option Value → AHeap → Prop} {l0 l1 l2 l3 l4 l5 l6 l7 l8 l9 : Slot} {x y : Int32} (h1 : ¬ x = y → W4 rm 159 [l0, l1, l2, l3, l4, l5, l6, l7, l8, l9] S H Q) (h2 : x = y → W4 rm 123 [l0, l1, l2, l3, l4, l5, l6, l7, l8, l9] S H Q) : W4 rm 120 [l0, l1, l2, l3, l4, l5, l6, l7, l8, l9] (.int y :: .int x :: S) H Q := W.icmp d4_120 (by decide) (by decide) h1 h2
theorem d4_123 : decode method_3_code 123 = .ok (.iload 9, 2) := by decide +kernel
theorem s4_123 {rm : Room} {S : List Value} {H : AHeap} {Q : Option Value → AHeap → Prop} {l0 l1 l2 l3 l4 l5 l6 l7 l8 : Slot} {x : Int32} (h : W4 rm 125 [l0, l1, l2, l3, l4, l5, l6, l7, l8, .val (.int x)] (.int x :: S) (H) Q) : W4 rm 123 [l0, l1, l2, l3, l4, l5, l6, l7, l8, .val (.int x)] (S) H Q := W.iload d4_123 rfl h
theorem d4_125 : decode method_3_code 125 = .ok (.iconst 3, 1) := by decide +kernel
theorem s4_125 {rm : Room} {S : List Value} {H : AHeap} {Q : Option Value → AHeap → Prop} {l0 l1 l2 l3 l4 l5 l6 l7 l8 l9 : Slot}  (h : W4 rm 126 [l0, l1, l2, l3, l4, l5, l6, l7, l8, l9] (.int 3 :: S) (H) Q) : W4 rm 125 [l0, l1, l2, l3, l4, l5, l6, l7, l8, l9] (S) H Q := W.iconst' d4_125 (by decide) h
theorem d4_126 : decode method_3_code 126 = .ok (.if_icmp .lt 13, 3) := by decide +kernel
theorem s4_126 {rm : Room} {S : List Value} {H : AHeap} {Q : Option Value → AHeap → Prop} {l0 l1 l2 l3 l4 l5 l6 l7 l8 l9 : Slot} {x y : Int32} (h1 : x < y → W4 rm 139 [l0, l1, l2, l3, l4, l5, l6, l7, l8, l9] S H Q) (h2 : ¬ x < y → W4 rm 129 [l0, l1, l2, l3, l4, l5, l6, l7, l8, l9] S H Q) : W4 rm 126 [l0, l1, l2, l3, l4, l5, l6, l7, l8, l9] (.int y :: .int x :: S) H Q := W.icmp d4_126 (by decide) (by decide) h1 h2
theorem d4_129 : decode method_3_code 129 = .ok (.aload_n 0, 1) := by decide +kernel
theorem s4_129 {rm : Room} {S : List Value} {H : AHeap} {Q : Option Value → AHeap → Prop} {l1 l2 l3 l4 l5 l6 l7 l8 l9 : Slot} {i : Nat} (h : W4 rm 130 [.val (.ref i), l1, l2, l3, l4, l5, l6, l7, l8, l9] (.ref i :: S) (H) Q) : W4 rm 129 [.val (.ref i), l1, l2, l3, l4, l5, l6, l7, l8, l9] (S) H Q := W.aload_n d4_129 rfl rfl h
theorem s4_129n {rm : Room} {S : List Value} {H : AHeap} {Q : Option Value → AHeap → Prop} {l1 l2 l3 l4 l5 l6 l7 l8 l9 : Slot}  (h : W4 rm 130 [.val .null, l1, l2, l3, l4, l5, l6, l7, l8, l9] (.null :: S) (H) Q) : W4 rm 129 [.val .null, l1, l2, l3, l4, l5, l6, l7, l8, l9] (S) H Q := W.aload_n d4_129 rfl rfl h
theorem d4_130 : decode method_3_code 130 = .ok (.iconst 2, 1) := by decide +kernel
theorem s4_130 {rm : Room} {S : List Value} {H : AHeap} {Q : Option Value → AHeap → Prop} {l0 l1 l2 l3 l4 l5 l6 l7 l8 l9 : Slot}  (h : W4 rm 131 [l0, l1, l2, l3, l4, l5, l6, l7, l8, l9] (.int 2 :: S) (H) Q) : W4 rm 130 [l0, l1, l2, l3, l4, l5, l6, l7, l8, l9] (S) H Q := W.iconst' d4_130 (by decide) h
theorem d4_131 : decode method_3_code 131 = .ok (.iaload, 1) := by decide +kernel
theorem s4_131 {rm : Room} {S : List Value} {H : AHeap} {Q : Option Value → AHeap → Prop} {l0 l1 l2 l3 l4 l5 l6 l7 l8 l9 : Slot} {i : Nat} {j : Int32} {vs : List Value} {v : Value} (N : Nat) (hH : H[i]? = some (.inr (.int, vs))) (hj : ix j N) (hv : vs[N]? = some v) (h : W4 rm 132 [l0, l1, l2, l3, l4, l5, l6, l7, l8, l9] (v :: S) (H) Q) : W4 rm 131 [l0, l1, l2, l3, l4, l5, l6, l7, l8, l9] (.int j :: .ref i :: S) H Q := W.xaload (Or.inl ⟨rfl, rfl⟩) d4_131 hH hj hv h
theorem d4_132 : decode method_3_code 132 = .ok (.aload 8, 2) := by decide +kernel
theorem s4_132 {rm : Room} {S : List Value} {H : AHeap} {Q : Option Value → AHeap → Prop} {l0 l1 l2 l3 l4 l5 l6 l7 l9 : Slot} {i : Nat} (h : W4 rm 134 [l0, l1, l2, l3, l4, l5, l6, l7, .val (.ref i), l9] (.ref i :: S) (H) Q) : W4 rm 132 [l0, l1, l2, l3, l4, l5, l6, l7, .val (.ref i), l9] (S) H Q := W.aload d4_132 rfl rfl h
theorem s4_132n {rm : Room} {S : List Value} {H : AHeap} {Q : Option Value → AHeap → Prop} {l0 l1 l2 l3 l4 l5 l6 l7 l9 : Slot}  (h : W4 rm 134 [l0, l1, l2, l3, l4, l5, l6, l7, .val .null, l9] (.null :: S) (H) Q) : W4 rm 132 [l0, l1, l2, l3, l4, l5, l6, l7, .val .null, l9] (S) H Q := W.aload d4_132 rfl rfl h
theorem d4_134 : decode method_3_code 134 = .ok (.iconst 2, 1) := by decide +kernel
theorem s4_134 {rm : Room} {S : List Value} {H : AHeap} {Q : Option Value → AHeap → Prop} {l0 l1 l2 l3 l4 l5 l6 l7 l8 l9 : Slot}  (h : W4 rm 135 [l0, l1, l2, l3, l4, l5, l6, l7, l8, l9] (.int 2 :: S) (H) Q) : W4 rm 134 [l0, l1, l2, l3, l4, l5, l6, l7, l8, l9] (S) H Q := W.iconst' d4_134 (by decide) h
theorem d4_135 : decode method_3_code 135 = .ok (.iaload, 1) := by decide +kernel
theorem s4_135 {rm : Room} {S : List Value} {H : AHeap} {Q : Option Value → AHeap → Prop} {l0 l1 l2 l3 l4 l5 l6 l7 l8 l9 : Slot} {i : Nat} {j : Int32} {vs : List Value} {v : Value} (N : Nat) (hH : H[i]? = some (.inr (.int, vs))) (hj : ix j N) (hv : vs[N]? = some v) (h : W4 rm 136 [l0, l1, l2, l3, l4, l5, l6, l7, l8, l9] (v :: S) (H) Q) : W4 rm 135 [l0, l1, l2, l3, l4, l5, l6, l7, l8, l9] (.int j :: .ref i :: S) H Q := W.xaload (Or.inl ⟨rfl, rfl⟩) d4_135 hH hj hv h
theorem d4_136 : decode method_3_code 136 = .ok (.if_icmp .ne 23, 3) := by decide +kernel
theorem s4_136 {rm : Room} {S : List Value} {H : AHeap} {Q : Option Value → AHeap → Prop} {l0 l1 l2 l3 l4 l5 l6 l7 l8 l9 : Slot} {x y : Int32} (h1 : ¬ x = y → W4 rm 159 [l0, l1, l2, l3, l4, l5, l6, l7, l8, l9] S H Q) (h2 : x = y → W4 rm 139 [l0, l1, l2, l3, l4, l5, l6, l7, l8, l9] S H Q) : W4 rm 136 [l0, l1, l2, l3, l4, l5, l6, l7, l8, l9] (.int y :: .int x :: S) H Q := W.icmp d4_136 (by decide) (by decide) h1 h2
theorem d4_139 : decode method_3_code 139 = .ok (.iload 9, 2) := by decide +kernel
theorem s4_139 {rm : Room} {S : List Value} {H : AHeap} {Q : Option Value → AHeap → Prop} {l0 l1 l2 l3 l4 l5 l6 l7 l8 : Slot} {x : Int32} (h : W4 rm 141 [l0, l1, l2, l3, l4, l5, l6, l7, l8, .val (.int x)] (.int x :: S) (H) Q) : W4 rm 139 [l0, l1, l2, l3, l4, l5, l6, l7, l8, .val (.int x)] (S) H Q := W.iload d4_139 rfl h
theorem d4_141 : decode method_3_code 141 = .ok (.iconst 4, 1) := by decide +kernel
theorem s4_141 {rm : Room} {S : List Value} {H : AHeap} {Q : Option Value → AHeap → Prop} {l0 l1 l2 l3 l4 l5 l6 l7 l8 l9 : Slot}  (h : W4 rm 142 [l0, l1, l2, l3, l4, l5, l6, l7, l8, l9] (.int 4 :: S) (H) Q) : W4 rm 141 [l0, l1, l2, l3, l4, l5, l6, l7, l8, l9] (S) H Q := W.iconst' d4_141 (by decide) h
theorem d4_142 : decode method_3_code 142 = .ok (.if_icmp .lt 13, 3) := by decide +kernel
theorem s4_142 {rm : Room} {S : List Value} {H : AHeap} {Q : Option Value → AHeap → Prop} {l0 l1 l2 l3 l4 l5 l6 l7 l8 l9 : Slot} {x y : Int32} (h1 : x < y → W4 rm 155 [l0, l1, l2, l3, l4, l5, l6, l7, l8, l9] S H Q) (h2 : ¬ x < y → W4 rm 145 [l0, l1, l2, l3, l4, l5, l6, l7, l8, l9] S H Q) : W4 rm 142 [l0, l1, l2, l3, l4, l5, l6, l7, l8, l9] (.int y :: .int x :: S) H Q := W.icmp d4_142 (by decide) (by decide) h1 h2
theorem d4_145 : decode method_3_code 145 = .ok (.aload_n 0, 1) := by decide +kernel
theorem s4_145 {rm : Room} {S : List Value} {H : AHeap} {Q : Option Value → AHeap → Prop} {l1 l2 l3 l4 l5 l6 l7 l8 l9 : Slot} {i : Nat} (h : W4 rm 146 [.val (.ref i), l1, l2, l3, l4, l5, l6, l7, l8, l9] (.ref i :: S) (H) Q) : W4 rm 145 [.val (.ref i), l1, l2, l3, l4, l5, l6, l7, l8, l9] (S) H Q := W.aload_n d4_145 rfl rfl h
theorem s4_145n {rm : Room} {S : List Value} {H : AHeap} {Q : Option Value → AHeap → Prop} {l1 l2 l3 l4 l5 l6 l7 l8 l9 : Slot}  (h : W4 rm 146 [.val .null, l1, l2, l3, l4, l5, l6, l7, l8, l9] (.null :: S) (H) Q) : W4 rm 145 [.val .null, l1, l2, l3, l4, l5, l6, l7, l8, l9] (S) H Q := W.aload_n d4_145 rfl rfl h
theorem d4_146 : decode method_3_code 146 = .ok (.iconst 3, 1) := by decide +kernel
theorem s4_146 {rm : Room} {S : List Value} {H : AHeap} {Q : Option Value → AHeap → Prop} {l0 l1 l2 l3 l4 l5 l6 l7 l8 l9 : Slot}  (h : W4 rm 147 [l0, l1, l2, l3, l4, l5, l6, l7, l8, l9] (.int 3 :: S) (H) Q) : W4 rm 146 [l0, l1, l2, l3, l4, l5, l6, l7, l8, l9] (S) H Q := W.iconst' d4_146 (by decide) h
theorem d4_147 : decode method_3_code 147 = .ok (.iaload, 1) := by decide +kernel
theorem s4_147 {rm : Room} {S : List Value} {H : AHeap} {Q : Option Value → AHeap → Prop} {l0 l1 l2 l3 l4 l5 l6 l7 l8 l9 : Slot} {i : Nat} {j : Int32} {vs : List Value} {v : Value} (N : Nat) (hH : H[i]? = some (.inr (.int, vs))) (hj : ix j N) (hv : vs[N]? = some v) (h : W4 rm 148 [l0, l1, l2, l3, l4, l5, l6, l7, l8, l9] (v :: S) (H) Q) : W4 rm 147 [l0, l1, l2, l3, l4, l5, l6, l7, l8, l9] (.int j :: .ref i :: S) H Q := W.xaload (Or.inl ⟨rfl, rfl⟩) d4_147 hH hj hv h
theorem d4_148 : decode method_3_code 148 = .ok (.aload 8, 2) := by decide +kernel
theorem s4_148 {rm : Room} {S : List Value} {H : AHeap} {Q : Option Value → AHeap → Prop} {l0 l1 l2 l3 l4 l5 l6 l7 l9 : Slot} {i : Nat} (h : W4 rm 150 [l0, l1, l2, l3, l4, l5, l6, l7, .val (.ref i), l9] (.ref i :: S) (H) Q) : W4 rm 148 [l0, l1, l2, l3, l4, l5, l6, l7, .val (.ref i), l9] (S) H Q := W.aload d4_148 rfl rfl h
theorem s4_148n {rm : Room} {S : List Value} {H : AHeap} {Q : Option Value → AHeap → Prop} {l0 l1 l2 l3 l4 l5 l6 l7 l9 : Slot}  (h : W4 rm 150 [l0, l1, l2, l3, l4, l5, l6, l7, .val .null, l9] (.null :: S) (H) Q) : W4 rm 148 [l0, l1, l2, l3, l4, l5, l6, l7, .val .null, l9] (S) H Q := W.aload d4_148 rfl rfl h
theorem d4_150 : decode method_3_code 150 = .ok (.iconst 3, 1) := by decide +kernel
theorem s4_150 {rm : Room} {S : List Value} {H : AHeap} {Q : Option Value → AHeap → Prop} {l0 l1 l2 l3 l4 l5 l6 l7 l8 l9 : Slot}  (h : W4 rm 151 [l0, l1, l2, l3, l4, l5, l6, l7, l8, l9] (.int 3 :: S) (H) Q) : W4 rm 150 [l0, l1, l2, l3, l4, l5, l6, l7, l8, l9] (S) H Q := W.iconst' d4_150 (by decide) h
theorem d4_151 : decode method_3_code 151 = .ok (.iaload, 1) := by decide +kernel
theorem s4_151 {rm : Room} {S : List Value} {H : AHeap} {Q : Option Value → AHeap → Prop} {l0 l1 l2 l3 l4 l5 l6 l7 l8 l9 : Slot} {i : Nat} {j : Int32} {vs : List Value} {v : Value} (N : Nat) (hH : H[i]? = some (.inr (.int, vs))) (hj : ix j N) (hv : vs[N]? = some v) (h : W4 rm 152 [l0, l1, l2, l3, l4, l5, l6, l7, l8, l9] (v :: S) (H) Q) : W4 rm 151 [l0, l1, l2, l3, l4, l5, l6, l7, l8, l9] (.int j :: .ref i :: S) H Q := W.xaload (Or.inl ⟨rfl, rfl⟩) d4_151 hH hj hv h
theorem d4_152 : decode method_3_code 152 = .ok (.if_icmp .ne 7, 3) := by decide +kernel
theorem s4_152 {rm : Room} {S : List Value} {H : AHeap} {Q : Option Value → AHeap → Prop} {l0 l1 l2 l3 l4 l5 l6 l7 l8 l9 : Slot} {x y : Int32} (h1 : ¬ x = y → W4 rm 159 [l0, l1, l2, l3, l4, l5, l6, l7, l8, l9] S H Q) (h2 : x = y → W4 rm 155 [l0, l1, l2, l3, l4, l5, l6, l7, l8, l9] S H Q) : W4 rm 152 [l0, l1, l2, l3, l4, l5, l6, l7, l8, l9] (.int y :: .int x :: S) H Q := W.icmp d4_152 (by decide) (by decide) h1 h2
theorem d4_155 : decode method_3_code 155 = .ok (.iconst 1, 1) := by decide +kernel
theorem s4_155 {rm : Room} {S : List Value} {H : AHeap} {Q : Option Value → AHeap → Prop} {l0 l1 l2 l3 l4 l5 l6 l7 l8 l9 : Slot}  (h : W4 rm 156 [l0, l1, l2, l3, l4, l5, l6, l7, l8, l9] (.int 1 :: S) (H) Q) : W4 rm 155 [l0, l1, l2, l3, l4, l5, l6, l7, l8, l9] (S) H Q := W.iconst' d4_155 (by decide) h
theorem d4_156 : decode method_3_code 156 = .ok (.goto 4, 3) := by decide +kernel
theorem s4_156 {rm : Room} {S : List Value} {H : AHeap} {Q : Option Value → AHeap → Prop} {l0 l1 l2 l3 l4 l5 l6 l7 l8 l9 : Slot}  (h : W4 rm 160 [l0, l1, l2, l3, l4, l5, l6, l7, l8, l9] (S) (H) Q) : W4 rm 156 [l0, l1, l2, l3, l4, l5, l6, l7, l8, l9] (S) H Q := W.goto d4_156 (by decide) (by decide) h
theorem d4_159 : decode method_3_code 159 = .ok (.iconst 0, 1) := by decide +kernel
theorem s4_159 {rm : Room} {S : List Value} {H : AHeap} {Q : Option Value → AHeap → Prop} {l0 l1 l2 l3 l4 l5 l6 l7 l8 l9 : Slot}  (h : W4 rm 160 [l0, l1, l2, l3, l4, l5, l6, l7, l8, l9] (.int 0 :: S) (H) Q) : W4 rm 159 [l0, l1, l2, l3, l4, l5, l6, l7, l8, l9] (S) H Q := W.iconst' d4_159 (by decide) h
theorem d4_160 : decode method_3_code 160 = .ok (.ireturn, 1) := by decide +kernel
theorem s4_160 {rm : Room} {S : List Value} {H : AHeap} {Q : Option Value → AHeap → Prop} {l0 l1 l2 l3 l4 l5 l6 l7 l8 l9 : Slot} {x : Int32} (hQ : Q (some (.int (x &&& 1))) H) : W4 rm 160 [l0, l1, l2, l3, l4, l5, l6, l7, l8, l9] (.int x :: S) H Q := W.ireturnZ d4_160 rfl hQ
theorem e5 {rm : Room} {H : AHeap} {Q : Option Value → AHeap → Prop} {a0 : Nat} {a1 : Int32} (h : W5 rm 0 [.val (.ref a0), .val (.int a1), .unset] [] H Q) : M5 rm [.ref a0, .int a1] H Q := M.of pf5 rfl rfl h
theorem e5L {rm : Room} {H : AHeap} {Q : Option Value → AHeap → Prop} {L : List Slot} {as : List Value} (h : W5 rm 0 L [] H Q) (hl : ent as ++ List.replicate (3 - (ent as).length) .unset = L := by rfl) (hn : L.length = 3 := by rfl) : M5 rm as H Q := M.of pf5 hl hn h
theorem d5_0 : decode prog_20_method_4_code 0 = .ok (.aload_n 0, 1) := by decide +kernel
theorem s5_0 {rm : Room} {S : List Value} {H : AHeap} {Q : Option Value → AHeap → Prop} {l1 l2 : Slot} {i : Nat} (h : W5 rm 1 [.val (.ref i), l1, l2] (.ref i :: S) (H) Q) : W5 rm 0 [.val (.ref i), l1, l2] (S) H Q := W.aload_n d5_0 rfl rfl h
theorem s5_0n {rm : Room} {S : List Value} {H : AHeap} {Q : Option Value → AHeap → Prop} {l1 l2 : Slot}  (h : W5 rm 1 [.val .null, l1, l2] (.null :: S) (H) Q) : W5 rm 0 [.val .null, l1, l2] (S) H Q := W.aload_n d5_0 rfl rfl h
theorem d5_1 : decode prog_20_method_4_code 1 = .ok (.getfield 16, 3) := by decide +kernel
theorem s5_1 {rm : Room} {S : List Value} {H : AHeap} {Q : Option Value → AHeap → Prop} {l0 l1 l2 : Slot} {i : Nat} {f0 f1 f2 f3 f4 : Value} (hH : H[i]? = some (.inl (0, [f0, f1, f2, f3, f4]))) (h : W5 rm 4 [l0, l1, l2] (f2 :: S) (H) Q) : W5 rm 1 [l0, l1, l2] (.ref i :: S) H Q := W.getF (c := 0) (j := 2) d5_1 (host := "") (Or.inl (List.mem_of_getElem? (i := 14) rfl)) (Or.inl rfl) rfl rfl hH rfl h
theorem d5_4 : decode prog_20_method_4_code 4 = .ok (.iload_n 1, 1) := by decide +kernel
theorem s5_4 {rm : Room} {S : List Value} {H : AHeap} {Q : Option Value → AHeap → Prop} {l0 l2 : Slot} {x : Int32} (h : W5 rm 5 [l0, .val (.int x), l2] (.int x :: S) (H) Q) : W5 rm 4 [l0, .val (.int x), l2] (S) H Q := W.iload_n d5_4 rfl h
theorem d5_5 : decode prog_20_method_4_code 5 = .ok (.iaload, 1) := by decide +kernel
theorem s5_5 {rm : Room} {S : List Value} {H : AHeap} {Q : Option Value → AHeap → Prop} {l0 l1 l2 : Slot} {i : Nat} {j : Int32} {vs : List Value} {v : Value} (N : Nat) (hH : H[i]? = some (.inr (.int, vs))) (hj : ix j N) (hv : vs[N]? = some v) (h : W5 rm 6 [l0, l1, l2] (v :: S) (H) Q) : W5 rm 5 [l0, l1, l2] (.int j :: .ref i :: S) H Q := W.xaload (Or.inl ⟨rfl, rfl⟩) d5_5 hH hj hv h
theorem d5_6 : decode prog_20_method_4_code 6 = .ok (.istore_n 2, 1) := by decide +kernel
theorem s5_6 {rm : Room} {S : List Value} {H : AHeap} {Q : Option Value → AHeap → Prop} {l0 l1 l2 : Slot} {x : Int32} (ho : one l2 = true) (h : W5 rm 7 [l0, l1, .val (.int x)] (S) (H) Q) : W5 rm 6 [l0, l1, l2] (.int x :: S) H Q := W.istore_n d5_6 rfl ho h
theorem s5_6s {rm : Room} {S : List Value} {H : AHeap} {Q : Option Value → AHeap → Prop} {l0 l1 : Slot} {x : Int32} (h : W5 rm 7 [l0, .unset, .val (.int x)] (S) (H) Q) : W5 rm 6 [l0, l1, .second] (.int x :: S) H Q := W.istore_nS d5_6 rfl (by decide) h
theorem d5_7 : decode prog_20_method_4_code 7 = .ok (.aload_n 0, 1) := by decide +kernel
theorem s5_7 {rm : Room} {S : List Value} {H : AHeap} {Q : Option Value → AHeap → Prop} {l1 l2 : Slot} {i : Nat} (h : W5 rm 8 [.val (.ref i), l1, l2] (.ref i :: S) (H) Q) : W5 rm 7 [.val (.ref i), l1, l2] (S) H Q := W.aload_n d5_7 rfl rfl h
theorem s5_7n {rm : Room} {S : List Value} {H : AHeap} {Q : Option Value → AHeap → Prop} {l1 l2 : Slot}  (h : W5 rm 8 [.val .null, l1, l2] (.null :: S) (H) Q) : W5 rm 7 [.val .null, l1, l2] (S) H Q := W.aload_n d5_7 rfl rfl h
theorem d5_8 : decode prog_20_method_4_code 8 = .ok (.getfield 19, 3) := by decide +kernel
theorem s5_8 {rm : Room} {S : List Value} {H : AHeap} {Q : Option Value → AHeap → Prop} {l0 l1 l2 : Slot} {i : Nat} {f0 f1 f2 f3 f4 : Value} (hH : H[i]? = some (.inl (0, [f0, f1, f2, f3, f4]))) (h : W5 rm 11 [l0, l1, l2] (f3 :: S) (H) Q) : W5 rm 8 [l0, l1, l2] (.ref i :: S) H Q := W.getF (c := 0) (j := 3) d5_8 (host := "") (Or.inl (List.mem_of_getElem? (i := 16) rfl)) (Or.inl rfl) rfl rfl hH rfl h
theorem d5_11 : decode prog_20_method_4_code 11 = .ok (.iload_n 1, 1) := by decide +kernel
theorem s5_11 {rm : Room} {S : List Value} {H : AHeap} {Q : Option Value → AHeap → Prop} {l0 l2 : Slot} {x : Int32} (h : W5 rm 12 [l0, .val (.int x), l2] (.int x :: S) (H) Q) : W5 rm 11 [l0, .val (.int x), l2] (S) H Q := W.iload_n d5_11 rfl h
theorem d5_12 : decode prog_20_method_4_code 12 = .ok (.iaload, 1) := by decide +kernel
theorem s5_12 {rm : Room} {S : List Value} {H : AHeap} {Q : Option Value → AHeap → Prop} {l0 l1 l2 : Slot} {i : Nat} {j : Int32} {vs : List Value} {v : Value} (N : Nat) (hH : H[i]? = some (.inr (.int, vs))) (hj : ix j N) (hv : vs[N]? = some v) (h : W5 rm 13 [l0, l1, l2] (v :: S) (H) Q) : W5 rm 12 [l0, l1, l2] (.int j :: .ref i :: S) H Q := W.xaload (Or.inl ⟨rfl, rfl⟩) d5_12 hH hj hv h
theorem d5_13 : decode prog_20_method_4_code 13 = .ok (.ifCond .ne 18, 3) := by decide +kernel
theorem s5_13 {rm : Room} {S : List Value} {H : AHeap} {Q : Option Value → AHeap → Prop} {l0 l1 l2 : Slot} {x : Int32} (h1 : ¬ x = 0 → W5 rm 31 [l0, l1, l2] S H Q) (h2 : x = 0 → W5 rm 16 [l0, l1, l2] S H Q) : W5 rm 13 [l0, l1, l2] (.int x :: S) H Q := W.ifc d5_13 (by decide) (by decide) h1 h2
theorem d5_16 : decode prog_20_method_4_code 16 = .ok (.aload_n 0, 1) := by decide +kernel
theorem s5_16 {rm : Room} {S : List Value} {H : AHeap} {Q : Option Value → AHeap → Prop} {l1 l2 : Slot} {i : Nat} (h : W5 rm 17 [.val (.ref i), l1, l2] (.ref i :: S) (H) Q) : W5 rm 16 [.val (.ref i), l1, l2] (S) H Q := W.aload_n d5_16 rfl rfl h
theorem s5_16n {rm : Room} {S : List Value} {H : AHeap} {Q : Option Value → AHeap → Prop} {l1 l2 : Slot}  (h : W5 rm 17 [.val .null, l1, l2] (.null :: S) (H) Q) : W5 rm 16 [.val .null, l1, l2] (S) H Q := W.aload_n d5_16 rfl rfl h
theorem d5_17 : decode prog_20_method_4_code 17 = .ok (.getfield 9, 3) := by decide +kernel
theorem s5_17 {rm : Room} {S : List Value} {H : AHeap} {Q : Option Value → AHeap → Prop} {l0 l1 l2 : Slot} {i : Nat} {f0 f1 f2 f3 f4 : Value} (hH : H[i]? = some (.inl (0, [f0, f1, f2, f3, f4]))) (h : W5 rm 20 [l0, l1, l2] (f0 :: S) (H) Q) : W5 rm 17 [l0, l1, l2] (.ref i :: S) H Q := W.getF (c := 0) (j := 0) d5_17 (host := "") (Or.inl (List.mem_of_getElem? (i := 10) rfl)) (Or.inl rfl) rfl rfl hH rfl h
theorem d5_20 : decode prog_20_method_4_code 20 = .ok (.iload_n 2, 1) := by decide +kernel
theorem s5_20 {rm : Room} {S : List Value} {H : AHeap} {Q : Option Value → AHeap → Prop} {l0 l1 : Slot} {x : Int32} (h : W5 rm 21 [l0, l1, .val (.int x)] (.int x :: S) (H) Q) : W5 rm 20 [l0, l1, .val (.int x)] (S) H Q := W.iload_n d5_20 rfl h
theorem d5_21 : decode prog_20_method_4_code 21 = .ok (.aload_n 0, 1) := by decide +kernel
theorem s5_21 {rm : Room} {S : List Value} {H : AHeap} {Q : Option Value → AHeap → Prop} {l1 l2 : Slot} {i : Nat} (h : W5 rm 22 [.val (.ref i), l1, l2] (.ref i :: S) (H) Q) : W5 rm 21 [.val (.ref i), l1, l2] (S) H Q := W.aload_n d5_21 rfl rfl h
theorem s5_21n {rm : Room} {S : List Value} {H : AHeap} {Q : Option Value → AHeap → Prop} {l1 l2 : Slot}  (h : W5 rm 22 [.val .null, l1, l2] (.null :: S) (H) Q) : W5 rm 21 [.val .null, l1, l2] (S) H Q := W.aload_n d5_21 rfl rfl h
theorem d5_22 : decode prog_20_method_4_code 22 = .ok (.getfield 22, 3) := by decide +kernel
theorem s5_22 {rm : Room} {S : List Value} {H : AHeap} {Q : Option Value → AHeap → Prop} {l0 l1 l2 : Slot} {i : Nat} {f0 f1 f2 f3 f4 : Value} (hH : H[i]? = some (.inl (0, [f0, f1, f2, f3, f4]))) (h : W5 rm 25 [l0, l1, l2] (f4 :: S) (H) Q) : W5 rm 22 [l0, l1, l2] (.ref i :: S) H Q := W.getF (c := 0) (j := 4) d5_22 (host := "") (Or.inl (List.mem_of_getElem? (i := 18) rfl)) (Or.inl rfl) rfl rfl hH rfl h
theorem d5_25 : decode prog_20_method_4_code 25 = .ok (.iload_n 1, 1) := by decide +kernel
theorem s5_25 {rm : Room} {S : List Value} {H : AHeap} {Q : Option Value → AHeap → Prop} {l0 l2 : Slot} {x : Int32} (h : W5 rm 26 [l0, .val (.int x), l2] (.int x :: S) (H) Q) : W5 rm 25 [l0, .val (.int x), l2] (S) H Q := W.iload_n d5_25 rfl h
theorem d5_26 : decode prog_20_method_4_code 26 = .ok (.iaload, 1) := by decide +kernel
theorem s5_26 {rm : Room} {S : List Value} {H : AHeap} {Q : Option Value → AHeap → Prop} {l0 l1 l2 : Slot} {i : Nat} {j : Int32} {vs : List Value} {v : Value} (N : Nat) (hH : H[i]? = some (.inr (.int, vs))) (hj : ix j N) (hv : vs[N]? = some v) (h : W5 rm 27 [l0, l1, l2] (v :: S) (H) Q) : W5 rm 26 [l0, l1, l2] (.int j :: .ref i :: S) H Q := W.xaload (Or.inl ⟨rfl, rfl⟩) d5_26 hH hj hv h
theorem d5_27 : decode prog_20_method_4_code 27 = .ok (.iastore, 1) := by decide +kernel
theorem s5_27 {rm : Room} {S : List Value} {H : AHeap} {Q : Option Value → AHeap → Prop} {l0 l1 l2 : Slot} {i : Nat} {j : Int32} {x : Int32} {vs : List Value} (N : Nat) (hH : H[i]? = some (.inr (.int, vs))) (hj : ix j N) (hl : Nat.blt N vs.length = true) (h : W5 rm 28 [l0, l1, l2] (S) (H.set i (.inr (.int, vs.set N (.int x)))) Q) : W5 rm 27 [l0, l1, l2] (.int x :: .int j :: .ref i :: S) H Q := W.iastore d5_27 hH hj hl h
theorem d5_28 : decode prog_20_method_4_code 28 = .ok (.goto 20, 3) := by decide +kernel
theorem s5_28 {rm : Room} {S : List Value} {H : AHeap} {Q : Option Value → AHeap → Prop} {l0 l1 l2 : Slot}  (h : W5 rm 48 [l0, l1, l2] (S) (H) Q) : W5 rm 28 [l0, l1, l2] (S) H Q := W.goto d5_28 (by decide) (by decide) h
theorem d5_31 : decode prog_20_method_4_code 31 = .ok (.aload_n 0, 1) := by decide +kernel
theorem s5_31 {rm : Room} {S : List Value} {H : AHeap} {Q : Option Value → AHeap → Prop} {l1 l2 : Slot} {i : Nat} (h : W5 rm 32 [.val (.ref i), l1, l2] (.ref i :: S) (H) Q) : W5 rm 31 [.val (.ref i), l1, l2] (S) H Q := W.aload_n d5_31 rfl rfl h
theorem s5_31n {rm : Room} {S : List Value} {H : AHeap} {Q : Option Value → AHeap → Prop} {l1 l2 : Slot}  (h : W5 rm 32 [.val .null, l1, l2] (.null :: S) (H) Q) : W5 rm 31 [.val .null, l1, l2] (S) H Q := W.aload_n d5_31 rfl rfl h
theorem d5_32 : decode prog_20_method_4_code 32 = .ok (.getfield 22, 3) := by decide +kernel
theorem s5_32 {rm : Room} {S : List Value} {H : AHeap} {Q : Option Value → AHeap → Prop} {l0 l1 l2 : Slot} {i : Nat} {f0 f1 f2 f3 f4 : Value} (hH : H[i]? = some (.inl (0, [f0, f1, f2, f3, f4]))) (h : W5 rm 35 [l0, l1, l2] (f4 :: S) (H) Q) : W5 rm 32 [l0, l1, l2] (.ref i :: S) H Q := W.getF (c := 0) (j := 4) d5_32 (host := "") (Or.inl (List.mem_of_getElem? (i := 18) rfl)) (Or.inl rfl) rfl rfl hH rfl h
theorem d5_35 : decode prog_20_method_4_code 35 = .ok (.aload_n 0, 1) := by decide +kernel
theorem s5_35 {rm : Room} {S : List Value} {H : AHeap} {Q : Option Value → AHeap → Prop} {l1 l2 : Slot} {i : Nat} (h : W5 rm 36 [.val (.ref i), l1, l2] (.ref i :: S) (H) Q) : W5 rm 35 [.val (.ref i), l1, l2] (S) H Q := W.aload_n d5_35 rfl rfl h
theorem s5_35n {rm : Room} {S : List Value} {H : AHeap} {Q : Option Value → AHeap → Prop} {l1 l2 : Slot}  (h : W5 rm 36 [.val .null, l1, l2] (.null :: S) (H) Q) : W5 rm 35 [.val .null, l1, l2] (S) H Q := W.aload_n d5_35 rfl rfl h
theorem d5_36 : decode prog_20_method_4_code 36 = .ok (.getfield 19, 3) := by decide +kernel
theorem s5_36 {rm : Room} {S : List Value} {H : AHeap} {Q : Option Value → AHeap → Prop} {l0 l1 l2 : Slot} {i : Nat} {f0 f1 f2 f3 f4 : Value} (hH : H[i]? = some (.inl (0, [f0, f1, f2, f3, f4]))) (h : W5 rm 39 [l0, l1, l2] (f3 :: S) (H) Q) : W5 rm 36 [l0, l1, l2] (.ref i :: S) H Q := W.getF (c := 0) (j := 3) d5_36 (host := "") (Or.inl (List.mem_of_getElem? (i := 16) rfl)) (Or.inl rfl) rfl rfl hH rfl h
theorem d5_39 : decode prog_20_method_4_code 39 = .ok (.iload_n 1, 1) := by decide +kernel
theorem s5_39 {rm : Room} {S : List Value} {H : AHeap} {Q : Option Value → AHeap → Prop} {l0 l2 : Slot} {x : Int32} (h : W5 rm 40 [l0, .val (.int x), l2] (.int x :: S) (H) Q) : W5 rm 39 [l0, .val (.int x), l2] (S) H Q := W.iload_n d5_39 rfl h
theorem d5_40 : decode prog_20_method_4_code 40 = .ok (.iaload, 1) := by decide +kernel
theorem s5_40 {rm : Room} {S : List Value} {H : AHeap} {Q : Option Value → AHeap → Prop} {l0 l1 l2 : Slot} {i : Nat} {j : Int32} {vs : List Value} {v : Value} (N : Nat) (hH : H[i]? = some (.inr (.int, vs))) (hj : ix j N) (hv : vs[N]? = some v) (h : W5 rm 41 [l0, l1, l2] (v :: S) (H) Q) : W5 rm 40 [l0, l1, l2] (.int j :: .ref i :: S) H Q := W.xaload (Or.inl ⟨rfl, rfl⟩) d5_40 hH hj hv h
theorem d5_41 : decode prog_20_method_4_code 41 = .ok (.aload_n 0, 1) := by decide +kernel
theorem s5_41 {rm : Room} {S : List Value} {H : AHeap} {Q : Option Value → AHeap → Prop} {l1 l2 : Slot} {i : Nat} (h : W5 rm 42 [.val (.ref i), l1, l2] (.ref i :: S) (H) Q) : W5 rm 41 [.val (.ref i), l1, l2] (S) H Q := W.aload_n d5_41 rfl rfl h
theorem s5_41n {rm : Room} {S : List Value} {H : AHeap} {Q : Option Value → AHeap → Prop} {l1 l2 : Slot}  (h : W5 rm 42 [.val .null, l1, l2] (.null :: S) (H) Q) : W5 rm 41 [.val .null, l1, l2] (S) H Q := W.aload_n d5_41 rfl rfl h
theorem d5_42 : decode prog_20_method_4_code 42 = .ok (.getfield 22, 3) := by decide +kernel
theorem s5_42 {rm : Room} {S : List Value} {H : AHeap} {Q : Option Value → AHeap → Prop} {l0 l1 l2 : Slot} {i : Nat} {f0 f1 f2 f3 f4 : Value} (hH : H[i]? = some (.inl (0, [f0, f1, f2, f3, f4]))) (h : W5 rm 45 [l0, l1, l2] (f4 :: S) (H) Q) : W5 rm 42 [l0, l1, l2] (.ref i :: S) H Q := W.getF (c := 0) (j := 4) d5_42 (host := "") (Or.inl (List.mem_of_getElem? (i := 18) rfl)) (Or.inl rfl) rfl rfl hH rfl h
theorem d5_45 : decode prog_20_method_4_code 45 = .ok (.iload_n 1, 1) := by decide +kernel
theorem s5_45 {rm : Room} {S : List Value} {H : AHeap} {Q : Option Value → AHeap → Prop} {l0 l2 : Slot} {x : Int32} (h : W5 rm 46 [l0, .val (.int x), l2] (.int x :: S) (H) Q) : W5 rm 45 [l0, .val (.int x), l2] (S) H Q := W.iload_n d5_45 rfl h
theorem d5_46 : decode prog_20_method_4_code 46 = .ok (.iaload, 1) := by decide +kernel
theorem s5_46 {rm : Room} {S : List Value} {H : AHeap} {Q : Option Value → AHeap → Prop} {l0 l1 l2 : Slot} {i : Nat} {j : Int32} {vs : List Value} {v : Value} (N : Nat) (hH : H[i]? = some (.inr (.int, vs))) (hj : ix j N) (hv : vs[N]? = some v) (h : W5 rm 47 [l0, l1, l2] (v :: S) (H) Q) : W5 rm 46 [l0, l1, l2] (.int j :: .ref i :: S) H Q := W.xaload (Or.inl ⟨rfl, rfl⟩) d5_46 hH hj hv h
theorem d5_47 : decode prog_20_method_4_code 47 = .ok (.iastore, 1) := by decide +kernel
theorem s5_47 {rm : Room} {S : List Value} {H : AHeap} {Q : Option Value → AHeap → Prop} {l0 l1 l2 : Slot} {i : Nat} {j : Int32} {x : Int32} {vs : List Value} (N : Nat) (hH : H[i]? = some (.inr (.int, vs))) (hj : ix j N) (hl : Nat.blt N vs.length = true) (h : W5 rm 48 [l0, l1, l2] (S) (H.set i (.inr (.int, vs.set N (.int x)))) Q) : W5 rm 47 [l0, l1, l2] (.int x :: .int j :: .ref i :: S) H Q := W.iastore d5_47 hH hj hl h
theorem d5_48 : decode prog_20_method_4_code 48 = .ok (.aload_n 0, 1) := by decide +kernel
theorem s5_48 {rm : Room} {S : List Value} {H : AHeap} {Q : Option Value → AHeap → Prop} {l1 l2 : Slot} {i : Nat} (h : W5 rm 49 [.val (.ref i), l1, l2] (.ref i :: S) (H) Q) : W5 rm 48 [.val (.ref i), l1, l2] (S) H Q := W.aload_n d5_48 rfl rfl h
theorem s5_48n {rm : Room} {S : List Value} {H : AHeap} {Q : Option Value → AHeap → Prop} {l1 l2 : Slot}  (h : W5 rm 49 [.val .null, l1, l2] (.null :: S) (H) Q) : W5 rm 48 [.val .null, l1, l2] (S) H Q := W.aload_n d5_48 rfl rfl h
theorem d5_49 : decode prog_20_method_4_code 49 = .ok (.getfield 22, 3) := by decide +kernel
theorem s5_49 {rm : Room} {S : List Value} {H : AHeap} {Q : Option Value → AHeap → Prop} {l0 l1 l2 : Slot} {i : Nat} {f0 f1 f2 f3 f4 : Value} (hH : H[i]? = some (.inl (0, [f0, f1, f2, f3, f4]))) (h : W5 rm 52 [l0, l1, l2] (f4 :: S) (H) Q) : W5 rm 49 [l0, l1, l2] (.ref i :: S) H Q := W.getF (c := 0) (j := 4) d5_49 (host := "") (Or.inl (List.mem_of_getElem? (i := 18) rfl)) (Or.inl rfl) rfl rfl hH rfl h
theorem d5_52 : decode prog_20_method_4_code 52 = .ok (.iload_n 1, 1) := by decide +kernel
theorem s5_52 {rm : Room} {S : List Value} {H : AHeap} {Q : Option Value → AHeap → Prop} {l0 l2 : Slot} {x : Int32} (h : W5 rm 53 [l0, .val (.int x), l2] (.int x :: S) (H) Q) : W5 rm 52 [l0, .val (.int x), l2] (S) H Q := W.iload_n d5_52 rfl h
theorem d5_53 : decode prog_20_method_4_code 53 = .ok (.iaload, 1) := by decide +kernel
theorem s5_53 {rm : Room} {S : List Value} {H : AHeap} {Q : Option Value → AHeap → Prop} {l0 l1 l2 : Slot} {i : Nat} {j : Int32} {vs : List Value} {v : Value} (N : Nat) (hH : H[i]? = some (.inr (.int, vs))) (hj : ix j N) (hv : vs[N]? = some v) (h : W5 rm 54 [l0, l1, l2] (v :: S) (H) Q) : W5 rm 53 [l0, l1, l2] (.int j :: .ref i :: S) H Q := W.xaload (Or.inl ⟨rfl, rfl⟩) d5_53 hH hj hv h
theorem d5_54 : decode prog_20_method_4_code 54 = .ok (.ifCond .ne 18, 3) := by decide +kernel
theorem s5_54 {rm : Room} {S : List Value} {H : AHeap} {Q : Option Value → AHeap → Prop} {l0 l1 l2 : Slot} {x : Int32} (h1 : ¬ x = 0 → W5 rm 72 [l0, l1, l2] S H Q) (h2 : x = 0 → W5 rm 57 [l0, l1, l2] S H Q) : W5 rm 54 [l0, l1, l2] (.int x :: S) H Q := W.ifc d5_54 (by decide) (by decide) h1 h2
theorem d5_57 : decode prog_20_method_4_code 57 = .ok (.aload_n 0, 1) := by decide +kernel
theorem s5_57 {rm : Room} {S : List Value} {H : AHeap} {Q : Option Value → AHeap → Prop} {l1 l2 : Slot} {i : Nat} (h : W5 rm 58 [.val (.ref i), l1, l2] (.ref i :: S) (H) Q) : W5 rm 57 [.val (.ref i), l1, l2] (S) H Q := W.aload_n d5_57 rfl rfl h
theorem s5_57n {rm : Room} {S : List Value} {H : AHeap} {Q : Option Value → AHeap → Prop} {l1 l2 : Slot}  (h : W5 rm 58 [.val .null, l1, l2] (.null :: S) (H) Q) : W5 rm 57 [.val .null, l1, l2] (S) H Q := W.aload_n d5_57 rfl rfl h
theorem d5_58 : decode prog_20_method_4_code 58 = .ok (.getfield 13, 3) := by decide +kernel
theorem s5_58 {rm : Room} {S : List Value} {H : AHeap} {Q : Option Value → AHeap → Prop} {l0 l1 l2 : Slot} {i : Nat} {f0 f1 f2 f3 f4 : Value} (hH : H[i]? = some (.inl (0, [f0, f1, f2, f3, f4]))) (h : W5 rm 61 [l0, l1, l2] (f1 :: S) (H) Q) : W5 rm 58 [l0, l1, l2] (.ref i :: S) H Q := W.getF (c := 0) (j := 1) d5_58 (host := "") (Or.inl (List.mem_of_getElem? (i := 12) rfl)) (Or.inl rfl) rfl rfl hH rfl h
theorem d5_61 : decode prog_20_method_4_code 61 = .ok (.iload_n 2, 1) := by decide +kernel
theorem s5_61 {rm : Room} {S : List Value} {H : AHeap} {Q : Option Value → AHeap → Prop} {l0 l1 : Slot} {x : Int32} (h : W5 rm 62 [l0, l1, .val (.int x)] (.int x :: S) (H) Q) : W5 rm 61 [l0, l1, .val (.int x)] (S) H Q := W.iload_n d5_61 rfl h
theorem d5_62 : decode prog_20_method_4_code 62 = .ok (.aload_n 0, 1) := by decide +kernel
theorem s5_62 {rm : Room} {S : List Value} {H : AHeap} {Q : Option Value → AHeap → Prop} {l1 l2 : Slot} {i : Nat} (h : W5 rm 63 [.val (.ref i), l1, l2] (.ref i :: S) (H) Q) : W5 rm 62 [.val (.ref i), l1, l2] (S) H Q := W.aload_n d5_62 rfl rfl h
theorem s5_62n {rm : Room} {S : List Value} {H : AHeap} {Q : Option Value → AHeap → Prop} {l1 l2 : Slot}  (h : W5 rm 63 [.val .null, l1, l2] (.null :: S) (H) Q) : W5 rm 62 [.val .null, l1, l2] (S) H Q := W.aload_n d5_62 rfl rfl h
theorem d5_63 : decode prog_20_method_4_code 63 = .ok (.getfield 19, 3) := by decide +kernel
theorem s5_63 {rm : Room} {S : List Value} {H : AHeap} {Q : Option Value → AHeap → Prop} {l0 l1 l2 : Slot} {i : Nat} {f0 f1 f2 f3 f4 : Value} (hH : H[i]? = some (.inl (0, [f0, f1, f2, f3, f4]))) (h : W5 rm 66 [l0, l1, l2] (f3 :: S) (H) Q) : W5 rm 63 [l0, l1, l2] (.ref i :: S) H Q := W.getF (c := 0) (j := 3) d5_63 (host := "") (Or.inl (List.mem_of_getElem? (i := 16) rfl)) (Or.inl rfl) rfl rfl hH rfl h
theorem d5_66 : decode prog_20_method_4_code 66 = .ok (.iload_n 1, 1) := by decide +kernel
theorem s5_66 {rm : Room} {S : List Value} {H : AHeap} {Q : Option Value → AHeap → Prop} {l0 l2 : Slot} {x : Int32} (h : W5 rm 67 [l0, .val (.int x), l2] (.int x :: S) (H) Q) : W5 rm 66 [l0, .val (.int x), l2] (S) H Q := W.iload_n d5_66 rfl h
theorem d5_67 : decode prog_20_method_4_code 67 = .ok (.iaload, 1) := by decide +kernel
theorem s5_67 {rm : Room} {S : List Value} {H : AHeap} {Q : Option Value → AHeap → Prop} {l0 l1 l2 : Slot} {i : Nat} {j : Int32} {vs : List Value} {v : Value} (N : Nat) (hH : H[i]? = some (.inr (.int, vs))) (hj : ix j N) (hv : vs[N]? = some v) (h : W5 rm 68 [l0, l1, l2] (v :: S) (H) Q) : W5 rm 67 [l0, l1, l2] (.int j :: .ref i :: S) H Q := W.xaload (Or.inl ⟨rfl, rfl⟩) d5_67 hH hj hv h
theorem d5_68 : decode prog_20_method_4_code 68 = .ok (.iastore, 1) := by decide +kernel
theorem s5_68 {rm : Room} {S : List Value} {H : AHeap} {Q : Option Value → AHeap → Prop} {l0 l1 l2 : Slot} {i : Nat} {j : Int32} {x : Int32} {vs : List Value} (N : Nat) (hH : H[i]? = some (.inr (.int, vs))) (hj : ix j N) (hl : Nat.blt N vs.length = true) (h : W5 rm 69 [l0, l1, l2] (S) (H.set i (.inr (.int, vs.set N (.int x)))) Q) : W5 rm 68 [l0, l1, l2] (.int x :: .int j :: .ref i :: S) H Q := W.iastore d5_68 hH hj hl h
theorem d5_69 : decode prog_20_method_4_code 69 = .ok (.goto 20, 3) := by decide +kernel
theorem s5_69 {rm : Room} {S : List Value} {H : AHeap} {Q : Option Value → AHeap → Prop} {l0 l1 l2 : Slot}  (h : W5 rm 89 [l0, l1, l2] (S) (H) Q) : W5 rm 69 [l0, l1, l2] (S) H Q := W.goto d5_69 (by decide) (by decide) h
theorem d5_72 : decode prog_20_method_4_code 72 = .ok (.aload_n 0, 1) := by decide +kernel
theorem s5_72 {rm : Room} {S : List Value} {H : AHeap} {Q : Option Value → AHeap → Prop} {l1 l2 : Slot} {i : Nat} (h : W5 rm 73 [.val (.ref i), l1, l2] (.ref i :: S) (H) Q) : W5 rm 72 [.val (.ref i), l1, l2] (S) H Q := W.aload_n d5_72 rfl rfl h
theorem s5_72n {rm : Room} {S : List Value} {H : AHeap} {Q : Option Value → AHeap → Prop} {l1 l2 : Slot}  (h : W5 rm 73 [.val .null, l1, l2] (.null :: S) (H) Q) : W5 rm 72 [.val .null, l1, l2] (S) H Q := W.aload_n d5_72 rfl rfl h
theorem d5_73 : decode prog_20_method_4_code 73 = .ok (.getfield 19, 3) := by decide +kernel
theorem s5_73 {rm : Room} {S : List Value} {H : AHeap} {Q : Option Value → AHeap → Prop} {l0 l1 l2 : Slot} {i : Nat} {f0 f1 f2 f3 f4 : Value} (hH : H[i]? = some (.inl (0, [f0, f1, f2, f3, f4]))) (h : W5 rm 76 [l0, l1, l2] (f3 :: S) (H) Q) : W5 rm 73 [l0, l1, l2] (.ref i :: S) H Q := W.getF (c := 0) (j := 3) d5_73 (host := "") (Or.inl (List.mem_of_getElem? (i := 16) rfl)) (Or.inl rfl) rfl rfl hH rfl h
theorem d5_76 : decode prog_20_method_4_code 76 = .ok (.aload_n 0, 1) := by decide +kernel
theorem s5_76 {rm : Room} {S : List Value} {H : AHeap} {Q : Option Value → AHeap → Prop} {l1 l2 : Slot} {i : Nat} (h : W5 rm 77 [.val (.ref i), l1, l2] (.ref i :: S) (H) Q) : W5 rm 76 [.val (.ref i), l1, l2] (S) H Q := W.aload_n d5_76 rfl rfl h
theorem s5_76n {rm : Room} {S : List Value} {H : AHeap} {Q : Option Value → AHeap → Prop} {l1 l2 : Slot}  (h : W5 rm 77 [.val .null, l1, l2] (.null :: S) (H) Q) : W5 rm 76 [.val .null, l1, l2] (S) H Q := W.aload_n d5_76 rfl rfl h
theorem d5_77 : decode prog_20_method_4_code 77 = .ok (.getfield 22, 3) := by decide +kernel
theorem s5_77 {rm : Room} {S : List Value} {H : AHeap} {Q : Option Value → AHeap → Prop} {l0 l1 l2 : Slot} {i : Nat} {f0 f1 f2 f3 f4 : Value} (hH : H[i]? = some (.inl (0, [f0, f1, f2, f3, f4]))) (h : W5 rm 80 [l0, l1, l2] (f4 :: S) (H) Q) : W5 rm 77 [l0, l1, l2] (.ref i :: S) H Q := W.getF (c := 0) (j := 4) d5_77 (host := "") (Or.inl (List.mem_of_getElem? (i := 18) rfl)) (Or.inl rfl) rfl rfl hH rfl h
theorem d5_80 : decode prog_20_method_4_code 80 = .ok (.iload_n 1, 1) := by decide +kernel
theorem s5_80 {rm : Room} {S : List Value} {H : AHeap} {Q : Option Value → AHeap → Prop} {l0 l2 : Slot} {x : Int32} (h : W5 rm 81 [l0, .val (.int x), l2] (.int x :: S) (H) Q) : W5 rm 80 [l0, .val (.int x), l2] (S) H Q := W.iload_n d5_80 rfl h
theorem d5_81 : decode prog_20_method_4_code 81 = .ok (.iaload, 1) := by decide +kernel
theorem s5_81 {rm : Room} {S : List Value} {H : AHeap} {Q : Option Value → AHeap → Prop} {l0 l1 l2 : Slot} {i : Nat} {j : Int32} {vs : List Value} {v : Value} (N : Nat) (hH : H[i]? = some (.inr (.int, vs))) (hj : ix j N) (hv : vs[N]? = some v) (h : W5 rm 82 [l0, l1, l2] (v :: S) (H) Q) : W5 rm 81 [l0, l1, l2] (.int j :: .ref i :: S) H Q := W.xaload (Or.inl ⟨rfl, rfl⟩) d5_81 hH hj hv h
theorem d5_82 : decode prog_20_method_4_code 82 = .ok (.aload_n 0, 1) := by decide +kernel
theorem s5_82 {rm : Room} {S : List Value} {H : AHeap} {Q : Option Value → AHeap → Prop} {l1 l2 : Slot} {i : Nat} (h : W5 rm 83 [.val (.ref i), l1, l2] (.ref i :: S) (H) Q) : W5 rm 82 [.val (.ref i), l1, l2] (S) H Q := W.aload_n d5_82 rfl rfl h
theorem s5_82n {rm : Room} {S : List Value} {H : AHeap} {Q : Option Value → AHeap → Prop} {l1 l2 : Slot}  (h : W5 rm 83 [.val .null, l1, l2] (.null :: S) (H) Q) : W5 rm 82 [.val .null, l1, l2] (S) H Q := W.aload_n d5_82 rfl rfl h
theorem d5_83 : decode prog_20_method_4_code 83 = .ok (.getfield 19, 3) := by decide +kernel
theorem s5_83 {rm : Room} {S : List Value} {H : AHeap} {Q : Option Value → AHeap → Prop} {l0 l1 l2 : Slot} {i : Nat} {f0 f1 f2 f3 f4 : Value} (hH : H[i]? = some (.inl (0, [f0, f1, f2, f3, f4]))) (h : W5 rm 86 [l0, l1, l2] (f3 :: S) (H) Q) : W5 rm 83 [l0, l1, l2] (.ref i :: S) H Q := W.getF (c := 0) (j := 3) d5_83 (host := "") (Or.inl (List.mem_of_getElem? (i := 16) rfl)) (Or.inl rfl) rfl rfl hH rfl h
theorem d5_86 : decode prog_20_method_4_code 86 = .ok (.iload_n 1, 1) := by decide +kernel
theorem s5_86 {rm : Room} {S : List Value} {H : AHeap} {Q : Option Value → AHeap → Prop} {l0 l2 : Slot} {x : Int32} (h : W5 rm 87 [l0, .val (.int x), l2] (.int x :: S) (H) Q) : W5 rm 86 [l0, .val (.int x), l2] (S) H Q := W.iload_n d5_86 rfl h
theorem d5_87 : decode prog_20_method_4_code 87 = .ok (.iaload, 1) := by decide +kernel
theorem s5_87 {rm : Room} {S : List Value} {H : AHeap} {Q : Option Value → AHeap → Prop} {l0 l1 l2 : Slot} {i : Nat} {j : Int32} {vs : List Value} {v : Value} (N : Nat) (hH : H[i]? = some (.inr (.int, vs))) (hj : ix j N) (hv : vs[N]? = some v) (h : W5 rm 88 [l0, l1, l2] (v :: S) (H) Q) : W5 rm 87 [l0, l1, l2] (.int j :: .ref i :: S) H Q := W.xaload (Or.inl ⟨rfl, rfl⟩) d5_87 hH hj hv h
theorem d5_88 : decode prog_20_method_4_code 88 = .ok (.iastore, 1) := by decide +kernel
theorem s5_88 {rm : Room} {S : List Value} {H : AHeap} {Q : Option Value → AHeap → Prop} {l0 l1 l2 : Slot} {i : Nat} {j : Int32} {x : Int32} {vs : List Value} (N : Nat) (hH : H[i]? = some (.inr (.int, vs))) (hj : ix j N) (hl : Nat.blt N vs.length = true) (h : W5 rm 89 [l0, l1, l2] (S) (H.set i (.inr (.int, vs.set N (.int x)))) Q) : W5 rm 88 [l0, l1, l2] (.int x :: .int j :: .ref i :: S) H Q := W.iastore d5_88 hH hj hl h
theorem d5_89 : decode prog_20_method_4_code 89 = .ok (.aload_n 0, 1) := by decide +kernel
theorem s5_89 {rm : Room} {S : List Value} {H : AHeap} {Q : Option Value → AHeap → Prop} {l1 l2 : Slot} {i : Nat} (h : W5 rm 90 [.val (.ref i), l1, l2] (.ref i :: S) (H) Q) : W5 rm 89 [.val (.ref i), l1, l2] (S) H Q := W.aload_n d5_89 rfl rfl h
theorem s5_89n {rm : Room} {S : List Value} {H : AHeap} {Q : Option Value → AHeap → Prop} {l1 l2 : Slot}  (h : W5 rm 90 [.val .null, l1, l2] (.null :: S) (H) Q) : W5 rm 89 [.val .null, l1, l2] (S) H Q := W.aload_n d5_89 rfl rfl h
theorem d5_90 : decode prog_20_method_4_code 90 = .ok (.getfield 16, 3) := by decide +kernel
theorem s5_90 {rm : Room} {S : List Value} {H : AHeap} {Q : Option Value → AHeap → Prop} {l0 l1 l2 : Slot} {i : Nat} {f0 f1 f2 f3 f4 : Value} (hH : H[i]? = some (.inl (0, [f0, f1, f2, f3, f4]))) (h : W5 rm 93 [l0, l1, l2] (f2 :: S) (H) Q) : W5 rm 90 [l0, l1, l2] (.ref i :: S) H Q := W.getF (c := 0) (j := 2) d5_90 (host := "") (Or.inl (List.mem_of_getElem? (i := 14) rfl)) (Or.inl rfl) rfl rfl hH rfl h
theorem d5_93 : decode prog_20_method_4_code 93 = .ok (.iload_n 1, 1) := by decide +kernel
theorem s5_93 {rm : Room} {S : List Value} {H : AHeap} {Q : Option Value → AHeap → Prop} {l0 l2 : Slot} {x : Int32} (h : W5 rm 94 [l0, .val (.int x), l2] (.int x :: S) (H) Q) : W5 rm 93 [l0, .val (.int x), l2] (S) H Q := W.iload_n d5_93 rfl h
theorem d5_94 : decode prog_20_method_4_code 94 = .ok (.iconst 0, 1) := by decide +kernel
theorem s5_94 {rm : Room} {S : List Value} {H : AHeap} {Q : Option Value → AHeap → Prop} {l0 l1 l2 : Slot}  (h : W5 rm 95 [l0, l1, l2] (.int 0 :: S) (H) Q) : W5 rm 94 [l0, l1, l2] (S) H Q := W.iconst' d5_94 (by decide) h
theorem d5_95 : decode prog_20_method_4_code 95 = .ok (.iastore, 1) := by decide +kernel
theorem s5_95 {rm : Room} {S : List Value} {H : AHeap} {Q : Option Value → AHeap → Prop} {l0 l1 l2 : Slot} {i : Nat} {j : Int32} {x : Int32} {vs : List Value} (N : Nat) (hH : H[i]? = some (.inr (.int, vs))) (hj : ix j N) (hl : Nat.blt N vs.length = true) (h : W5 rm 96 [l0, l1, l2] (S) (H.set i (.inr (.int, vs.set N (.int x)))) Q) : W5 rm 95 [l0, l1, l2] (.int x :: .int j :: .ref i :: S) H Q := W.iastore d5_95 hH hj hl h
theorem d5_96 : decode prog_20_method_4_code 96 = .ok (.return_, 1) := by decide +kernel
theorem s5_96 {rm : Room} {H : AHeap} {Q : Option Value → AHeap → Prop} {l0 l1 l2 : Slot} (hQ : Q none H) : W5 rm 96 [l0, l1, l2] [] H Q := W.ret_ d5_96 rfl hQ
theorem b0_19 {rm : Room} {S : List Value} {H : AHeap} {Q : Option Value → AHeap → Prop} {l0 l1 l2 l3 l4 l5 l6 l7 l8 l9 l10 : Slot} {x : Int32} (h : ∀ t : Int32, ((¬ x = 0) ∧ t = 1) ∨ ((x = 0) ∧ t = 0) → W0 rm 27 [l0, l1, l2, l3, l4, l5, l6, l7, l8, l9, l10] (.int t :: S) H Q) : W0 rm 19 [l0, l1, l2, l3, l4, l5, l6, l7, l8, l9, l10] (.int x :: S) H Q := s0_19 (fun q => s0_26 (h 0 (Or.inr ⟨q, rfl⟩))) (fun q => s0_22 (s0_23 (h 1 (Or.inl ⟨q, rfl⟩))))
theorem b0_34 {rm : Room} {S : List Value} {H : AHeap} {Q : Option Value → AHeap → Prop} {l0 l1 l2 l3 l4 l5 l6 l7 l8 l9 l10 : Slot} {x : Int32} (h : ∀ t : Int32, ((¬ x = 0) ∧ t = 1) ∨ ((x = 0) ∧ t = 0) → W0 rm 42 [l0, l1, l2, l3, l4, l5, l6, l7, l8, l9, l10] (.int t :: S) H Q) : W0 rm 34 [l0, l1, l2, l3, l4, l5, l6, l7, l8, l9, l10] (.int x :: S) H Q := s0_34 (fun q => s0_41 (h 0 (Or.inr ⟨q, rfl⟩))) (fun q => s0_37 (s0_38 (h 1 (Or.inl ⟨q, rfl⟩))))
theorem b0_49 {rm : Room} {S : List Value} {H : AHeap} {Q : Option Value → AHeap → Prop} {l0 l1 l2 l3 l4 l5 l6 l7 l8 l9 l10 : Slot} {x : Int32} (h : ∀ t : Int32, ((¬ x = 0) ∧ t = 1) ∨ ((x = 0) ∧ t = 0) → W0 rm 57 [l0, l1, l2, l3, l4, l5, l6, l7, l8, l9, l10] (.int t :: S) H Q) : W0 rm 49 [l0, l1, l2, l3, l4, l5, l6, l7, l8, l9, l10] (.int x :: S) H Q := s0_49 (fun q => s0_56 (h 0 (Or.inr ⟨q, rfl⟩))) (fun q => s0_52 (s0_53 (h 1 (Or.inl ⟨q, rfl⟩))))
theorem b0_69 {rm : Room} {S : List Value} {H : AHeap} {Q : Option Value → AHeap → Prop} {l0 l1 l2 l3 l4 l5 l6 l7 l8 l9 l10 : Slot} {x : Int32} (h : ∀ t : Int32, ((¬ x = 0) ∧ t = 1) ∨ ((x = 0) ∧ t = 0) → W0 rm 77 [l0, l1, l2, l3, l4, l5, l6, l7, l8, l9, l10] (.int t :: S) H Q) : W0 rm 69 [l0, l1, l2, l3, l4, l5, l6, l7, l8, l9, l10] (.int x :: S) H Q := s0_69 (fun q => s0_76 (h 0 (Or.inr ⟨q, rfl⟩))) (fun q => s0_72 (s0_73 (h 1 (Or.inl ⟨q, rfl⟩))))
theorem b0_189 {rm : Room} {S : List Value} {H : AHeap} {Q : Option Value → AHeap → Prop} {l0 l1 l2 l3 l4 l5 l6 l7 l8 l9 l10 : Slot} {x y : Int32} (h : ∀ t : Int32, ((x = y) ∧ t = 1) ∨ ((¬ x = y) ∧ t = 0) → W0 rm 197 [l0, l1, l2, l3, l4, l5, l6, l7, l8, l9, l10] (.int t :: S) H Q) : W0 rm 189 [l0, l1, l2, l3, l4, l5, l6, l7, l8, l9, l10] (.int y :: .int x :: S) H Q := s0_189 (fun q => s0_196 (h 0 (Or.inr ⟨q, rfl⟩))) (fun q => s0_192 (s0_193 (h 1 (Or.inl ⟨q, rfl⟩))))
theorem b0_229 {rm : Room} {S : List Value} {H : AHeap} {Q : Option Value → AHeap → Prop} {l0 l1 l2 l3 l4 l5 l6 l7 l8 l9 l10 : Slot} {x : Int32} (h : ∀ t : Int32, ((¬ x = 0) ∧ t = 1) ∨ ((x = 0) ∧ t = 0) → W0 rm 237 [l0, l1, l2, l3, l4, l5, l6, l7, l8, l9, l10] (.int t :: S) H Q) : W0 rm 229 [l0, l1, l2, l3, l4, l5, l6, l7, l8, l9, l10] (.int x :: S) H Q := s0_229 (fun q => s0_236 (h 0 (Or.inr ⟨q, rfl⟩))) (fun q => s0_232 (s0_233 (h 1 (Or.inl ⟨q, rfl⟩))))
theorem b4_152 {rm : Room} {S : List Value} {H : AHeap} {Q : Option Value → AHeap → Prop} {l0 l1 l2 l3 l4 l5 l6 l7 l8 l9 : Slot} {x y : Int32} (h : ∀ t : Int32, ((x = y) ∧ t = 1) ∨ ((¬ x = y) ∧ t = 0) → W4 rm 160 [l0, l1, l2, l3, l4, l5, l6, l7, l8, l9] (.int t :: S) H Q) : W4 rm 152 [l0, l1, l2, l3, l4, l5, l6, l7, l8, l9] (.int y :: .int x :: S) H Q := s4_152 (fun q => s4_159 (h 0 (Or.inr ⟨q, rfl⟩))) (fun q => s4_155 (s4_156 (h 1 (Or.inl ⟨q, rfl⟩))))
abbrev own_b (m : Nat) (x0 x1 x2 x3 : Int32) : List Value := .int x0 :: .int x1 :: .int x2 :: .int x3 :: List.replicate m (.int 0)
abbrev own_a (x1 x2 : Int32) : List Value := [.int 0, .int x1, .int x2, .int 0, .int 0, .int 0, .int 0, .int 0, .int 0, .int 0, .int 0, .int 0, .int 0, .int 0, .int 0, .int 0]
theorem own_ctor (m : Nat) (hm : m ≤ 15) : M1 ⟨1, 5, 89, 12⟩ [.ref 0, .int (Int32.ofNat (m + 3))] [(.inl (0, [.null, .null, .null, .null, .null]) : ACell)] (Is none [(.inl (0, [.ref 1, .ref 2, .ref 3, .ref 4, .ref 5]) : ACell), .inr (.int, own_a 0 0), .inr (.int, own_a 0 0), .inr (.int, own_b m 0 0 0 0), .inr (.int, own_b m 0 0 0 0), .inr (.int, own_b m 0 0 0 0)]) := by
  have e : Int32.ofNat (m + 3) + 1 = Int32.ofNat (m + 4) := (Int32.ofNat_add (m + 3) 1).symm
  refine e1 ?_
  refine s1_0 ?_
  refine s1_1 rfl ?_
  refine s1_4 ?_
  refine s1_5 ?_
  refine s1_7 1 16 (by decide) rfl rfl ?_
  refine s1_9 rfl ?_
  refine s1_12 ?_
  refine s1_13 ?_
  refine s1_15 2 16 (by decide) rfl rfl ?_
  refine s1_17 rfl ?_
  refine s1_20 ?_
  refine s1_21 ?_
  refine s1_22 ?_
  refine s1_23 ?_
  rw [e]
  refine s1_24 3 (m + 4) (ix_ofNat (by omega)) rfl (by simp [nok]; omega) ?_
  refine s1_26 rfl ?_
  refine s1_29 ?_
  refine s1_30 ?_
  refine s1_31 ?_
  refine s1_32 ?_
  rw [e]
  refine s1_33 4 (m + 4) (ix_ofNat (by omega)) rfl (by simp [nok]; omega) ?_
  refine s1_35 rfl ?_
  refine s1_38 ?_
  refine s1_39 ?_
  refine s1_40 ?_
  refine s1_41 ?_
  rw [e]
  refine s1_42 5 (m + 4) (ix_ofNat (by omega)) rfl (by simp [nok]; omega) ?_
  refine s1_44 rfl ?_
  exact s1_47 ⟨rfl, rfl⟩
theorem own_size (t : Int32) : ∃ m : Nat, m ≤ 15 ∧ 3 + (t &&& 15) = Int32.ofNat (m + 3) := by
  have e : (t &&& 15).toInt = t.toInt % 2 ^ 4 := Jvm.Kit.i32_mask t 15 (k := 4) (by decide) (by decide)
  refine ⟨(t &&& 15).toInt.toNat, by omega, ?_⟩
  apply Int32.toInt_inj.mp
  have h := c_iadd 3 (t &&& 15); have r := rng32 (3 + (t &&& 15))
  rw [Int32.toInt_ofNat_of_lt (by omega)]
  simp only [Int32.reduceToInt] at h
  omega
theorem own_bit (x : Int32) : x &&& 1 = 0 ∨ x &&& 1 = 1 := and_one x
theorem own_r0 {m : Nat} : M2 ⟨0, 0, 0, 0⟩ [.ref 0, .int 3, .int 1] [(.inl (0, [.ref 1, .ref 2, .ref 3, .ref 4, .ref 5]) : ACell), (.inr (.int, own_a 0 0) : ACell), (.inr (.int, own_a 0 0) : ACell), (.inr (.int, own_b m 0 0 0 0) : ACell), (.inr (.int, own_b m 0 0 0 0) : ACell), (.inr (.int, own_b m 0 0 0 0) : ACell)] (Is none [(.inl (0, [.ref 1, .ref 2, .ref 3, .ref 4, .ref 5]) : ACell), (.inr (.int, own_a 3 0) : ACell), (.inr (.int, own_a 3 0) : ACell), (.inr (.int, own_b m 0 0 0 1) : ACell), (.inr (.int, own_b m 0 0 0 0) : ACell), (.inr (.int, own_b m 0 0 0 0) : ACell)]) := by
  refine e2 ?_
  refine s2_0 ?_
  refine s2_1 ?_
  refine s2_2 rfl ?_
  refine s2_5k 16 rfl rfl ?_
  refine s2_6 (fun _ => ?_) (fun h => absurd h (by decide))
  refine s2_45 ?_
  refine s2_46 rfl ?_
  refine s2_49 ?_
  refine s2_50 ?_
  refine s2_51 3 rfl (by decide) rfl ?_
  refine s2_52 ?_
  refine s2_53 rfl ?_
  refine s2_56 ?_
  refine s2_57 ?_
  refine s2_58 rfl ?_
  refine s2_61 ?_
  refine s2_62 1 rfl (by decide) rfl ?_
  refine s2_63 3 rfl (by decide) rfl ?_
  refine s2_64 ?_
  refine s2_65 rfl ?_
  refine s2_68 ?_
  refine s2_69 ?_
  refine s2_70 3 rfl (by decide) rfl ?_
  refine s2_71 ?_
  refine s2_72 rfl ?_
  refine s2_75 ?_
  refine s2_76 1 rfl (by decide) rfl ?_
  refine s2_77 (fun h => absurd h (by decide)) (fun _ => ?_)
  refine s2_80 ?_
  refine s2_81 rfl ?_
  refine s2_84 ?_
  refine s2_85 ?_
  refine s2_86 1 rfl (by decide) rfl ?_
  refine s2_87 ?_
  refine s2_102 ?_
  refine s2_103 rfl ?_
  refine s2_106 ?_
  refine s2_107 ?_
  refine s2_108 1 rfl (by decide) rfl ?_
  exact s2_109 ⟨rfl, rfl⟩
theorem own_r1 {m : Nat} : M2 ⟨0, 0, 0, 0⟩ [.ref 0, .int 1, .int 1] [(.inl (0, [.ref 1, .ref 2, .ref 3, .ref 4, .ref 5]) : ACell), (.inr (.int, own_a 3 0) : ACell), (.inr (.int, own_a 3 0) : ACell), (.inr (.int, own_b m 0 0 0 1) : ACell), (.inr (.int, own_b m 0 0 0 0) : ACell), (.inr (.int, own_b m 0 0 0 0) : ACell)] (Is none [(.inl (0, [.ref 1, .ref 2, .ref 3, .ref 4, .ref 5]) : ACell), (.inr (.int, own_a 3 0) : ACell), (.inr (.int, own_a 1 0) : ACell), (.inr (.int, own_b m 0 1 0 1) : ACell), (.inr (.int, own_b m 0 3 0 0) : ACell), (.inr (.int, own_b m 0 0 0 1) : ACell)]) := by
  refine e2 ?_
  refine s2_0 ?_
  refine s2_1 ?_
  refine s2_2 rfl ?_
  refine s2_5k 16 rfl rfl ?_
  refine s2_6 (fun _ => ?_) (fun h => absurd h (by decide))
  refine s2_45 ?_
  refine s2_46 rfl ?_
  refine s2_49 ?_
  refine s2_50 ?_
  refine s2_51 1 rfl (by decide) rfl ?_
  refine s2_52 ?_
  refine s2_53 rfl ?_
  refine s2_56 ?_
  refine s2_57 ?_
  refine s2_58 rfl ?_
  refine s2_61 ?_
  refine s2_62 1 rfl (by decide) rfl ?_
  refine s2_63 1 rfl (by decide) rfl ?_
  refine s2_64 ?_
  refine s2_65 rfl ?_
  refine s2_68 ?_
  refine s2_69 ?_
  refine s2_70 1 rfl (by decide) rfl ?_
  refine s2_71 ?_
  refine s2_72 rfl ?_
  refine s2_75 ?_
  refine s2_76 1 rfl (by decide) rfl ?_
  refine s2_77 (fun _ => ?_) (fun h => absurd h (by decide))
  refine s2_90 ?_
  refine s2_91 rfl ?_
  refine s2_94 ?_
  refine s2_95 rfl ?_
  refine s2_98 ?_
  refine s2_99 1 rfl (by decide) rfl ?_
  refine s2_100 ?_
  refine s2_101 3 rfl (by decide) rfl ?_
  refine s2_102 ?_
  refine s2_103 rfl ?_
  refine s2_106 ?_
  refine s2_107 ?_
  refine s2_108 1 rfl (by decide) rfl ?_
  exact s2_109 ⟨rfl, rfl⟩
theorem own_r2 {m : Nat} : M2 ⟨0, 0, 0, 0⟩ [.ref 0, .int 2, .int 1] [(.inl (0, [.ref 1, .ref 2, .ref 3, .ref 4, .ref 5]) : ACell), (.inr (.int, own_a 3 0) : ACell), (.inr (.int, own_a 1 0) : ACell), (.inr (.int, own_b m 0 1 0 1) : ACell), (.inr (.int, own_b m 0 3 0 0) : ACell), (.inr (.int, own_b m 0 0 0 1) : ACell)] (Is none [(.inl (0, [.ref 1, .ref 2, .ref 3, .ref 4, .ref 5]) : ACell), (.inr (.int, own_a 3 0) : ACell), (.inr (.int, own_a 2 0) : ACell), (.inr (.int, own_b m 0 1 1 1) : ACell), (.inr (.int, own_b m 0 3 1 0) : ACell), (.inr (.int, own_b m 0 2 0 1) : ACell)]) := by
  refine e2 ?_
  refine s2_0 ?_
  refine s2_1 ?_
  refine s2_2 rfl ?_
  refine s2_5k 16 rfl rfl ?_
  refine s2_6 (fun _ => ?_) (fun h => absurd h (by decide))
  refine s2_45 ?_
  refine s2_46 rfl ?_
  refine s2_49 ?_
  refine s2_50 ?_
  refine s2_51 2 rfl (by decide) rfl ?_
  refine s2_52 ?_
  refine s2_53 rfl ?_
  refine s2_56 ?_
  refine s2_57 ?_
  refine s2_58 rfl ?_
  refine s2_61 ?_
  refine s2_62 1 rfl (by decide) rfl ?_
  refine s2_63 2 rfl (by decide) rfl ?_
  refine s2_64 ?_
  refine s2_65 rfl ?_
  refine s2_68 ?_
  refine s2_69 ?_
  refine s2_70 2 rfl (by decide) rfl ?_
  refine s2_71 ?_
  refine s2_72 rfl ?_
  refine s2_75 ?_
  refine s2_76 1 rfl (by decide) rfl ?_
  refine s2_77 (fun _ => ?_) (fun h => absurd h (by decide))
  refine s2_90 ?_
  refine s2_91 rfl ?_
  refine s2_94 ?_
  refine s2_95 rfl ?_
  refine s2_98 ?_
  refine s2_99 1 rfl (by decide) rfl ?_
  refine s2_100 ?_
  refine s2_101 1 rfl (by decide) rfl ?_
  refine s2_102 ?_
  refine s2_103 rfl ?_
  refine s2_106 ?_
  refine s2_107 ?_
  refine s2_108 1 rfl (by decide) rfl ?_
  exact s2_109 ⟨rfl, rfl⟩
theorem own_r3 {m : Nat} : M3 ⟨0, 1, 3, 0⟩ [.ref 0, .int 1] [(.inl (0, [.ref 1, .ref 2, .ref 3, .ref 4, .ref 5]) : ACell), (.inr (.int, own_a 3 0) : ACell), (.inr (.int, own_a 2 0) : ACell), (.inr (.int, own_b m 0 1 1 1) : ACell), (.inr (.int, own_b m 0 3 1 0) : ACell), (.inr (.int, own_b m 0 2 0 1) : ACell)] (Is (some (.ref 6)) [(.inl (0, [.ref 1, .ref 2, .ref 3, .ref 4, .ref 5]) : ACell), (.inr (.int, own_a 3 0) : ACell), (.inr (.int, own_a 2 0) : ACell), (.inr (.int, own_b m 0 1 1 1) : ACell), (.inr (.int, own_b m 0 3 1 0) : ACell), (.inr (.int, own_b m 0 2 0 1) : ACell), (.inr (.int, [.int 3, .int 1, .int 2]) : ACell)]) := by
  refine e3 ?_
  refine s3_0 ?_
  refine s3_1 rfl ?_
  refine s3_2 ?_
  refine s3_3 rfl ?_
  refine s3_6 ?_
  refine s3_7 1 rfl (by decide) rfl ?_
  refine s3_8 rfl ?_
  refine s3_9 ?_
  refine s3_10 (fun h => absurd h (by decide)) (fun _ => ?_)
  refine s3_13 ?_
  refine s3_16 ?_
  refine s3_17 rfl ?_
  refine s3_20 ?_
  refine s3_21 3 rfl (by decide) rfl ?_
  refine s3_22 rfl ?_
  refine s3_23 ?_
  refine s3_9 ?_
  refine s3_10 (fun h => absurd h (by decide)) (fun _ => ?_)
  refine s3_13 ?_
  refine s3_16 ?_
  refine s3_17 rfl ?_
  refine s3_20 ?_
  refine s3_21 1 rfl (by decide) rfl ?_
  refine s3_22 rfl ?_
  refine s3_23 ?_
  refine s3_9 ?_
  refine s3_10 (fun h => absurd h (by decide)) (fun _ => ?_)
  refine s3_13 ?_
  refine s3_16 ?_
  refine s3_17 rfl ?_
  refine s3_20 ?_
  refine s3_21 2 rfl (by decide) rfl ?_
  refine s3_22 rfl ?_
  refine s3_23 ?_
  refine s3_9 ?_
  refine s3_10 (fun _ => ?_) (fun h => absurd h (by decide))
  refine s3_26 ?_
  refine s3_27 6 3 (by decide) rfl rfl ?_
  refine s3_29 rfl ?_
  refine s3_30 ?_
  refine s3_31 rfl ?_
  refine s3_33 ?_
  refine s3_34 rfl ?_
  refine s3_37 ?_
  refine s3_38 1 rfl (by decide) rfl ?_
  refine s3_39 rfl ?_
  refine s3_41 ?_
  refine s3_43 (fun h => absurd h (by decide)) (fun _ => ?_)
  refine s3_46 ?_
  refine s3_47 ?_
  refine s3_49 ?_
  refine s3_51 0 rfl (by decide) rfl ?_
  refine s3_52 ?_
  refine s3_55 ?_
  refine s3_56 rfl ?_
  refine s3_59 ?_
  refine s3_61 3 rfl (by decide) rfl ?_
  refine s3_62 rfl ?_
  refine s3_64 ?_
  refine s3_41 ?_
  refine s3_43 (fun h => absurd h (by decide)) (fun _ => ?_)
  refine s3_46 ?_
  refine s3_47 ?_
  refine s3_49 ?_
  refine s3_51 1 rfl (by decide) rfl ?_
  refine s3_52 ?_
  refine s3_55 ?_
  refine s3_56 rfl ?_
  refine s3_59 ?_
  refine s3_61 1 rfl (by decide) rfl ?_
  refine s3_62 rfl ?_
  refine s3_64 ?_
  refine s3_41 ?_
  refine s3_43 (fun h => absurd h (by decide)) (fun _ => ?_)
  refine s3_46 ?_
  refine s3_47 ?_
  refine s3_49 ?_
  refine s3_51 2 rfl (by decide) rfl ?_
  refine s3_52 ?_
  refine s3_55 ?_
  refine s3_56 rfl ?_
  refine s3_59 ?_
  refine s3_61 2 rfl (by decide) rfl ?_
  refine s3_62 rfl ?_
  refine s3_64 ?_
  refine s3_41 ?_
  refine s3_43 (fun _ => ?_) (fun h => absurd h (by decide))
  refine s3_67 ?_
  exact s3_68 ⟨rfl, rfl⟩
theorem own_r4 {m : Nat} : M4 ⟨0, 1, 4, 0⟩ [.ref 6, .int 1, .int 1, .int 1, .int 0, .int 0, .int 0, .int 0] [(.inl (0, [.ref 1, .ref 2, .ref 3, .ref 4, .ref 5]) : ACell), (.inr (.int, own_a 3 0) : ACell), (.inr (.int, own_a 2 0) : ACell), (.inr (.int, own_b m 0 1 1 1) : ACell), (.inr (.int, own_b m 0 3 1 0) : ACell), (.inr (.int, own_b m 0 2 0 1) : ACell), (.inr (.int, [.int 3, .int 1, .int 2]) : ACell)] (Is (some (.int 1)) [(.inl (0, [.ref 1, .ref 2, .ref 3, .ref 4, .ref 5]) : ACell), (.inr (.int, own_a 3 0) : ACell), (.inr (.int, own_a 2 0) : ACell), (.inr (.int, own_b m 0 1 1 1) : ACell), (.inr (.int, own_b m 0 3 1 0) : ACell), (.inr (.int, own_b m 0 2 0 1) : ACell), (.inr (.int, [.int 3, .int 1, .int 2]) : ACell), (.inr (.int, [.int 3, .int 1, .int 2, .int 0]) : ACell)]) := by
  refine e4 ?_
  refine s4_0 ?_
  refine s4_1 7 4 (by decide) rfl rfl ?_
  refine s4_3 rfl ?_
  refine s4_5 ?_
  refine s4_6 rfl ?_
  refine s4_8 ?_
  refine s4_9 ?_
  refine s4_10 (fun h => absurd h (by decide)) (fun _ => ?_)
  refine s4_13 ?_
  refine s4_15 (fun h => absurd h (by decide)) (fun _ => ?_)
  refine s4_18 ?_
  refine s4_20 ?_
  refine s4_22 ?_
  refine s4_23 0 rfl (by decide) rfl ?_
  refine s4_24 ?_
  refine s4_27 ?_
  refine s4_28 ?_
  refine s4_29 (fun h => absurd h (by decide)) (fun _ => ?_)
  refine s4_32 ?_
  refine s4_34 (fun h => absurd h (by decide)) (fun _ => ?_)
  refine s4_37 ?_
  refine s4_39 ?_
  refine s4_41 ?_
  refine s4_42 1 rfl (by decide) rfl ?_
  refine s4_43 ?_
  refine s4_46 ?_
  refine s4_47 ?_
  refine s4_48 (fun h => absurd h (by decide)) (fun _ => ?_)
  refine s4_51 ?_
  refine s4_53 (fun h => absurd h (by decide)) (fun _ => ?_)
  refine s4_56 ?_
  refine s4_58 ?_
  refine s4_60 ?_
  refine s4_61 2 rfl (by decide) rfl ?_
  refine s4_62 ?_
  refine s4_65 ?_
  refine s4_67 (fun _ => ?_) (fun h => absurd h (by decide))
  refine s4_84 ?_
  refine s4_85k 3 rfl rfl ?_
  refine s4_86 ?_
  refine s4_88 (fun h => absurd h (by decide)) (fun _ => ?_)
  refine s4_91 ?_
  refine s4_93 ?_
  refine s4_94 (fun h => absurd h (by decide)) (fun _ => ?_)
  refine s4_97 ?_
  refine s4_98 ?_
  refine s4_99 0 rfl (by decide) rfl ?_
  refine s4_100 ?_
  refine s4_102 ?_
  refine s4_103 0 rfl (by decide) rfl ?_
  refine s4_104 (fun h => absurd h (by decide)) (fun _ => ?_)
  refine s4_107 ?_
  refine s4_109 ?_
  refine s4_110 (fun h => absurd h (by decide)) (fun _ => ?_)
  refine s4_113 ?_
  refine s4_114 ?_
  refine s4_115 1 rfl (by decide) rfl ?_
  refine s4_116 ?_
  refine s4_118 ?_
  refine s4_119 1 rfl (by decide) rfl ?_
  refine s4_120 (fun h => absurd h (by decide)) (fun _ => ?_)
  refine s4_123 ?_
  refine s4_125 ?_
  refine s4_126 (fun h => absurd h (by decide)) (fun _ => ?_)
  refine s4_129 ?_
  refine s4_130 ?_
  refine s4_131 2 rfl (by decide) rfl ?_
  refine s4_132 ?_
  refine s4_134 ?_
  refine s4_135 2 rfl (by decide) rfl ?_
  refine s4_136 (fun h => absurd h (by decide)) (fun _ => ?_)
  refine s4_139 ?_
  refine s4_141 ?_
  refine s4_142 (fun _ => ?_) (fun h => absurd h (by decide))
  refine s4_155 ?_
  refine s4_156 ?_
  exact s4_160 ⟨rfl, rfl⟩
theorem own_r5 {m : Nat} : M5 ⟨0, 0, 0, 0⟩ [.ref 0, .int 2] [(.inl (0, [.ref 1, .ref 2, .ref 3, .ref 4, .ref 5]) : ACell), (.inr (.int, own_a 3 0) : ACell), (.inr (.int, own_a 2 0) : ACell), (.inr (.int, own_b m 0 1 1 1) : ACell), (.inr (.int, own_b m 0 3 1 0) : ACell), (.inr (.int, own_b m 0 2 0 1) : ACell)] (Is none [(.inl (0, [.ref 1, .ref 2, .ref 3, .ref 4, .ref 5]) : ACell), (.inr (.int, own_a 3 0) : ACell), (.inr (.int, own_a 1 0) : ACell), (.inr (.int, own_b m 0 1 0 1) : ACell), (.inr (.int, own_b m 0 3 1 0) : ACell), (.inr (.int, own_b m 0 0 0 1) : ACell)]) := by
  refine e5 ?_
  refine s5_0 ?_
  refine s5_1 rfl ?_
  refine s5_4 ?_
  refine s5_5 2 rfl (by decide) rfl ?_
  refine s5_6 rfl ?_
  refine s5_7 ?_
  refine s5_8 rfl ?_
  refine s5_11 ?_
  refine s5_12 2 rfl (by decide) rfl ?_
  refine s5_13 (fun _ => ?_) (fun h => absurd h (by decide))
  refine s5_31 ?_
  refine s5_32 rfl ?_
  refine s5_35 ?_
  refine s5_36 rfl ?_
  refine s5_39 ?_
  refine s5_40 2 rfl (by decide) rfl ?_
  refine s5_41 ?_
  refine s5_42 rfl ?_
  refine s5_45 ?_
  refine s5_46 2 rfl (by decide) rfl ?_
  refine s5_47 1 rfl (by decide) rfl ?_
  refine s5_48 ?_
  refine s5_49 rfl ?_
  refine s5_52 ?_
  refine s5_53 2 rfl (by decide) rfl ?_
  refine s5_54 (fun h => absurd h (by decide)) (fun _ => ?_)
  refine s5_57 ?_
  refine s5_58 rfl ?_
  refine s5_61 ?_
  refine s5_62 ?_
  refine s5_63 rfl ?_
  refine s5_66 ?_
  refine s5_67 2 rfl (by decide) rfl ?_
  refine s5_68 1 rfl (by decide) rfl ?_
  refine s5_69 ?_
  refine s5_89 ?_
  refine s5_90 rfl ?_
  refine s5_93 ?_
  refine s5_94 ?_
  refine s5_95 2 rfl (by decide) rfl ?_
  exact s5_96 ⟨rfl, rfl⟩
theorem own_r6 {m : Nat} : M3 ⟨0, 1, 2, 0⟩ [.ref 0, .int 1] [(.inl (0, [.ref 1, .ref 2, .ref 3, .ref 4, .ref 5]) : ACell), (.inr (.int, own_a 3 0) : ACell), (.inr (.int, own_a 1 0) : ACell), (.inr (.int, own_b m 0 1 0 1) : ACell), (.inr (.int, own_b m 0 3 1 0) : ACell), (.inr (.int, own_b m 0 0 0 1) : ACell)] (Is (some (.ref 6)) [(.inl (0, [.ref 1, .ref 2, .ref 3, .ref 4, .ref 5]) : ACell), (.inr (.int, own_a 3 0) : ACell), (.inr (.int, own_a 1 0) : ACell), (.inr (.int, own_b m 0 1 0 1) : ACell), (.inr (.int, own_b m 0 3 1 0) : ACell), (.inr (.int, own_b m 0 0 0 1) : ACell), (.inr (.int, [.int 3, .int 1]) : ACell)]) := by
  refine e3 ?_
  refine s3_0 ?_
  refine s3_1 rfl ?_
  refine s3_2 ?_
  refine s3_3 rfl ?_
  refine s3_6 ?_
  refine s3_7 1 rfl (by decide) rfl ?_
  refine s3_8 rfl ?_
  refine s3_9 ?_
  refine s3_10 (fun h => absurd h (by decide)) (fun _ => ?_)
  refine s3_13 ?_
  refine s3_16 ?_
  refine s3_17 rfl ?_
  refine s3_20 ?_
  refine s3_21 3 rfl (by decide) rfl ?_
  refine s3_22 rfl ?_
  refine s3_23 ?_
  refine s3_9 ?_
  refine s3_10 (fun h => absurd h (by decide)) (fun _ => ?_)
  refine s3_13 ?_
  refine s3_16 ?_
  refine s3_17 rfl ?_
  refine s3_20 ?_
  refine s3_21 1 rfl (by decide) rfl ?_
  refine s3_22 rfl ?_
  refine s3_23 ?_
  refine s3_9 ?_
  refine s3_10 (fun _ => ?_) (fun h => absurd h (by decide))
  refine s3_26 ?_
  refine s3_27 6 2 (by decide) rfl rfl ?_
  refine s3_29 rfl ?_
  refine s3_30 ?_
  refine s3_31 rfl ?_
  refine s3_33 ?_
  refine s3_34 rfl ?_
  refine s3_37 ?_
  refine s3_38 1 rfl (by decide) rfl ?_
  refine s3_39 rfl ?_
  refine s3_41 ?_
  refine s3_43 (fun h => absurd h (by decide)) (fun _ => ?_)
  refine s3_46 ?_
  refine s3_47 ?_
  refine s3_49 ?_
  refine s3_51 0 rfl (by decide) rfl ?_
  refine s3_52 ?_
  refine s3_55 ?_
  refine s3_56 rfl ?_
  refine s3_59 ?_
  refine s3_61 3 rfl (by decide) rfl ?_
  refine s3_62 rfl ?_
  refine s3_64 ?_
  refine s3_41 ?_
  refine s3_43 (fun h => absurd h (by decide)) (fun _ => ?_)
  refine s3_46 ?_
  refine s3_47 ?_
  refine s3_49 ?_
  refine s3_51 1 rfl (by decide) rfl ?_
  refine s3_52 ?_
  refine s3_55 ?_
  refine s3_56 rfl ?_
  refine s3_59 ?_
  refine s3_61 1 rfl (by decide) rfl ?_
  refine s3_62 rfl ?_
  refine s3_64 ?_
  refine s3_41 ?_
  refine s3_43 (fun _ => ?_) (fun h => absurd h (by decide))
  refine s3_67 ?_
  exact s3_68 ⟨rfl, rfl⟩
theorem own_r7 {m : Nat} : M4 ⟨0, 1, 4, 0⟩ [.ref 6, .int 1, .int 1, .int 1, .int 0, .int 0, .int 1, .int 0] [(.inl (0, [.ref 1, .ref 2, .ref 3, .ref 4, .ref 5]) : ACell), (.inr (.int, own_a 3 0) : ACell), (.inr (.int, own_a 1 0) : ACell), (.inr (.int, own_b m 0 1 0 1) : ACell), (.inr (.int, own_b m 0 3 1 0) : ACell), (.inr (.int, own_b m 0 0 0 1) : ACell), (.inr (.int, [.int 3, .int 1]) : ACell)] (Is (some (.int 1)) [(.inl (0, [.ref 1, .ref 2, .ref 3, .ref 4, .ref 5]) : ACell), (.inr (.int, own_a 3 0) : ACell), (.inr (.int, own_a 1 0) : ACell), (.inr (.int, own_b m 0 1 0 1) : ACell), (.inr (.int, own_b m 0 3 1 0) : ACell), (.inr (.int, own_b m 0 0 0 1) : ACell), (.inr (.int, [.int 3, .int 1]) : ACell), (.inr (.int, [.int 3, .int 1, .int 0, .int 0]) : ACell)]) := by
  refine e4 ?_
  refine s4_0 ?_
  refine s4_1 7 4 (by decide) rfl rfl ?_
  refine s4_3 rfl ?_
  refine s4_5 ?_
  refine s4_6 rfl ?_
  refine s4_8 ?_
  refine s4_9 ?_
  refine s4_10 (fun h => absurd h (by decide)) (fun _ => ?_)
  refine s4_13 ?_
  refine s4_15 (fun h => absurd h (by decide)) (fun _ => ?_)
  refine s4_18 ?_
  refine s4_20 ?_
  refine s4_22 ?_
  refine s4_23 0 rfl (by decide) rfl ?_
  refine s4_24 ?_
  refine s4_27 ?_
  refine s4_28 ?_
  refine s4_29 (fun h => absurd h (by decide)) (fun _ => ?_)
  refine s4_32 ?_
  refine s4_34 (fun h => absurd h (by decide)) (fun _ => ?_)
  refine s4_37 ?_
  refine s4_39 ?_
  refine s4_41 ?_
  refine s4_42 1 rfl (by decide) rfl ?_
  refine s4_43 ?_
  refine s4_46 ?_
  refine s4_47 ?_
  refine s4_48 (fun h => absurd h (by decide)) (fun _ => ?_)
  refine s4_51 ?_
  refine s4_53 (fun _ => ?_) (fun h => absurd h (by decide))
  refine s4_65 ?_
  refine s4_67 (fun _ => ?_) (fun h => absurd h (by decide))
  refine s4_84 ?_
  refine s4_85k 2 rfl rfl ?_
  refine s4_86 ?_
  refine s4_88 (fun h => absurd h (by decide)) (fun _ => ?_)
  refine s4_91 ?_
  refine s4_93 ?_
  refine s4_94 (fun h => absurd h (by decide)) (fun _ => ?_)
  refine s4_97 ?_
  refine s4_98 ?_
  refine s4_99 0 rfl (by decide) rfl ?_
  refine s4_100 ?_
  refine s4_102 ?_
  refine s4_103 0 rfl (by decide) rfl ?_
  refine s4_104 (fun h => absurd h (by decide)) (fun _ => ?_)
  refine s4_107 ?_
  refine s4_109 ?_
  refine s4_110 (fun h => absurd h (by decide)) (fun _ => ?_)
  refine s4_113 ?_
  refine s4_114 ?_
  refine s4_115 1 rfl (by decide) rfl ?_
  refine s4_116 ?_
  refine s4_118 ?_
  refine s4_119 1 rfl (by decide) rfl ?_
  refine s4_120 (fun h => absurd h (by decide)) (fun _ => ?_)
  refine s4_123 ?_
  refine s4_125 ?_
  refine s4_126 (fun _ => ?_) (fun h => absurd h (by decide))
  refine s4_139 ?_
  refine s4_141 ?_
  refine s4_142 (fun _ => ?_) (fun h => absurd h (by decide))
  refine s4_155 ?_
  refine s4_156 ?_
  exact s4_160 ⟨rfl, rfl⟩
theorem own_r8 {m : Nat} : M5 ⟨0, 0, 0, 0⟩ [.ref 0, .int 1] [(.inl (0, [.ref 1, .ref 2, .ref 3, .ref 4, .ref 5]) : ACell), (.inr (.int, own_a 3 0) : ACell), (.inr (.int, own_a 2 0) : ACell), (.inr (.int, own_b m 0 1 1 1) : ACell), (.inr (.int, own_b m 0 3 1 0) : ACell), (.inr (.int, own_b m 0 2 0 1) : ACell)] (Is none [(.inl (0, [.ref 1, .ref 2, .ref 3, .ref 4, .ref 5]) : ACell), (.inr (.int, own_a 3 0) : ACell), (.inr (.int, own_a 2 0) : ACell), (.inr (.int, own_b m 0 0 1 1) : ACell), (.inr (.int, own_b m 0 3 3 0) : ACell), (.inr (.int, own_b m 0 2 0 2) : ACell)]) := by
  refine e5 ?_
  refine s5_0 ?_
  refine s5_1 rfl ?_
  refine s5_4 ?_
  refine s5_5 1 rfl (by decide) rfl ?_
  refine s5_6 rfl ?_
  refine s5_7 ?_
  refine s5_8 rfl ?_
  refine s5_11 ?_
  refine s5_12 1 rfl (by decide) rfl ?_
  refine s5_13 (fun _ => ?_) (fun h => absurd h (by decide))
  refine s5_31 ?_
  refine s5_32 rfl ?_
  refine s5_35 ?_
  refine s5_36 rfl ?_
  refine s5_39 ?_
  refine s5_40 1 rfl (by decide) rfl ?_
  refine s5_41 ?_
  refine s5_42 rfl ?_
  refine s5_45 ?_
  refine s5_46 1 rfl (by decide) rfl ?_
  refine s5_47 3 rfl (by decide) rfl ?_
  refine s5_48 ?_
  refine s5_49 rfl ?_
  refine s5_52 ?_
  refine s5_53 1 rfl (by decide) rfl ?_
  refine s5_54 (fun _ => ?_) (fun h => absurd h (by decide))
  refine s5_72 ?_
  refine s5_73 rfl ?_
  refine s5_76 ?_
  refine s5_77 rfl ?_
  refine s5_80 ?_
  refine s5_81 1 rfl (by decide) rfl ?_
  refine s5_82 ?_
  refine s5_83 rfl ?_
  refine s5_86 ?_
  refine s5_87 1 rfl (by decide) rfl ?_
  refine s5_88 2 rfl (by decide) rfl ?_
  refine s5_89 ?_
  refine s5_90 rfl ?_
  refine s5_93 ?_
  refine s5_94 ?_
  refine s5_95 1 rfl (by decide) rfl ?_
  exact s5_96 ⟨rfl, rfl⟩
theorem own_r9 {m : Nat} : M3 ⟨0, 1, 2, 0⟩ [.ref 0, .int 1] [(.inl (0, [.ref 1, .ref 2, .ref 3, .ref 4, .ref 5]) : ACell), (.inr (.int, own_a 3 0) : ACell), (.inr (.int, own_a 2 0) : ACell), (.inr (.int, own_b m 0 0 1 1) : ACell), (.inr (.int, own_b m 0 3 3 0) : ACell), (.inr (.int, own_b m 0 2 0 2) : ACell)] (Is (some (.ref 6)) [(.inl (0, [.ref 1, .ref 2, .ref 3, .ref 4, .ref 5]) : ACell), (.inr (.int, own_a 3 0) : ACell), (.inr (.int, own_a 2 0) : ACell), (.inr (.int, own_b m 0 0 1 1) : ACell), (.inr (.int, own_b m 0 3 3 0) : ACell), (.inr (.int, own_b m 0 2 0 2) : ACell), (.inr (.int, [.int 3, .int 2]) : ACell)]) := by
  refine e3 ?_
  refine s3_0 ?_
  refine s3_1 rfl ?_
  refine s3_2 ?_
  refine s3_3 rfl ?_
  refine s3_6 ?_
  refine s3_7 1 rfl (by decide) rfl ?_
  refine s3_8 rfl ?_
  refine s3_9 ?_
  refine s3_10 (fun h => absurd h (by decide)) (fun _ => ?_)
  refine s3_13 ?_
  refine s3_16 ?_
  refine s3_17 rfl ?_
  refine s3_20 ?_
  refine s3_21 3 rfl (by decide) rfl ?_
  refine s3_22 rfl ?_
  refine s3_23 ?_
  refine s3_9 ?_
  refine s3_10 (fun h => absurd h (by decide)) (fun _ => ?_)
  refine s3_13 ?_
  refine s3_16 ?_
  refine s3_17 rfl ?_
  refine s3_20 ?_
  refine s3_21 2 rfl (by decide) rfl ?_
  refine s3_22 rfl ?_
  refine s3_23 ?_
  refine s3_9 ?_
  refine s3_10 (fun _ => ?_) (fun h => absurd h (by decide))
  refine s3_26 ?_
  refine s3_27 6 2 (by decide) rfl rfl ?_
  refine s3_29 rfl ?_
  refine s3_30 ?_
  refine s3_31 rfl ?_
  refine s3_33 ?_
  refine s3_34 rfl ?_
  refine s3_37 ?_
  refine s3_38 1 rfl (by decide) rfl ?_
  refine s3_39 rfl ?_
  refine s3_41 ?_
  refine s3_43 (fun h => absurd h (by decide)) (fun _ => ?_)
  refine s3_46 ?_
  refine s3_47 ?_
  refine s3_49 ?_
  refine s3_51 0 rfl (by decide) rfl ?_
  refine s3_52 ?_
  refine s3_55 ?_
  refine s3_56 rfl ?_
  refine s3_59 ?_
  refine s3_61 3 rfl (by decide) rfl ?_
  refine s3_62 rfl ?_
  refine s3_64 ?_
  refine s3_41 ?_
  refine s3_43 (fun h => absurd h (by decide)) (fun _ => ?_)
  refine s3_46 ?_
  refine s3_47 ?_
  refine s3_49 ?_
  refine s3_51 1 rfl (by decide) rfl ?_
  refine s3_52 ?_
  refine s3_55 ?_
  refine s3_56 rfl ?_
  refine s3_59 ?_
  refine s3_61 2 rfl (by decide) rfl ?_
  refine s3_62 rfl ?_
  refine s3_64 ?_
  refine s3_41 ?_
  refine s3_43 (fun _ => ?_) (fun h => absurd h (by decide))
  refine s3_67 ?_
  exact s3_68 ⟨rfl, rfl⟩
theorem own_r10 {m : Nat} : M4 ⟨0, 1, 4, 0⟩ [.ref 6, .int 1, .int 1, .int 1, .int 0, .int 1, .int 0, .int 0] [(.inl (0, [.ref 1, .ref 2, .ref 3, .ref 4, .ref 5]) : ACell), (.inr (.int, own_a 3 0) : ACell), (.inr (.int, own_a 2 0) : ACell), (.inr (.int, own_b m 0 0 1 1) : ACell), (.inr (.int, own_b m 0 3 3 0) : ACell), (.inr (.int, own_b m 0 2 0 2) : ACell), (.inr (.int, [.int 3, .int 2]) : ACell)] (Is (some (.int 1)) [(.inl (0, [.ref 1, .ref 2, .ref 3, .ref 4, .ref 5]) : ACell), (.inr (.int, own_a 3 0) : ACell), (.inr (.int, own_a 2 0) : ACell), (.inr (.int, own_b m 0 0 1 1) : ACell), (.inr (.int, own_b m 0 3 3 0) : ACell), (.inr (.int, own_b m 0 2 0 2) : ACell), (.inr (.int, [.int 3, .int 2]) : ACell), (.inr (.int, [.int 3, .int 2, .int 0, .int 0]) : ACell)]) := by
  refine e4 ?_
  refine s4_0 ?_
  refine s4_1 7 4 (by decide) rfl rfl ?_
  refine s4_3 rfl ?_
  refine s4_5 ?_
  refine s4_6 rfl ?_
  refine s4_8 ?_
  refine s4_9 ?_
  refine s4_10 (fun h => absurd h (by decide)) (fun _ => ?_)
  refine s4_13 ?_
  refine s4_15 (fun h => absurd h (by decide)) (fun _ => ?_)
  refine s4_18 ?_
  refine s4_20 ?_
  refine s4_22 ?_
  refine s4_23 0 rfl (by decide) rfl ?_
  refine s4_24 ?_
  refine s4_27 ?_
  refine s4_28 ?_
  refine s4_29 (fun h => absurd h (by decide)) (fun _ => ?_)
  refine s4_32 ?_
  refine s4_34 (fun _ => ?_) (fun h => absurd h (by decide))
  refine s4_46 ?_
  refine s4_47 ?_
  refine s4_48 (fun h => absurd h (by decide)) (fun _ => ?_)
  refine s4_51 ?_
  refine s4_53 (fun h => absurd h (by decide)) (fun _ => ?_)
  refine s4_56 ?_
  refine s4_58 ?_
  refine s4_60 ?_
  refine s4_61 1 rfl (by decide) rfl ?_
  refine s4_62 ?_
  refine s4_65 ?_
  refine s4_67 (fun _ => ?_) (fun h => absurd h (by decide))
  refine s4_84 ?_
  refine s4_85k 2 rfl rfl ?_
  refine s4_86 ?_
  refine s4_88 (fun h => absurd h (by decide)) (fun _ => ?_)
  refine s4_91 ?_
  refine s4_93 ?_
  refine s4_94 (fun h => absurd h (by decide)) (fun _ => ?_)
  refine s4_97 ?_
  refine s4_98 ?_
  refine s4_99 0 rfl (by decide) rfl ?_
  refine s4_100 ?_
  refine s4_102 ?_
  refine s4_103 0 rfl (by decide) rfl ?_
  refine s4_104 (fun h => absurd h (by decide)) (fun _ => ?_)
  refine s4_107 ?_
  refine s4_109 ?_
  refine s4_110 (fun h => absurd h (by decide)) (fun _ => ?_)
  refine s4_113 ?_
  refine s4_114 ?_
  refine s4_115 1 rfl (by decide) rfl ?_
  refine s4_116 ?_
  refine s4_118 ?_
  refine s4_119 1 rfl (by decide) rfl ?_
  refine s4_120 (fun h => absurd h (by decide)) (fun _ => ?_)
  refine s4_123 ?_
  refine s4_125 ?_
  refine s4_126 (fun _ => ?_) (fun h => absurd h (by decide))
  refine s4_139 ?_
  refine s4_141 ?_
  refine s4_142 (fun _ => ?_) (fun h => absurd h (by decide))
  refine s4_155 ?_
  refine s4_156 ?_
  exact s4_160 ⟨rfl, rfl⟩
theorem own_r11 {m : Nat} : M5 ⟨0, 0, 0, 0⟩ [.ref 0, .int 1] [(.inl (0, [.ref 1, .ref 2, .ref 3, .ref 4, .ref 5]) : ACell), (.inr (.int, own_a 3 0) : ACell), (.inr (.int, own_a 1 0) : ACell), (.inr (.int, own_b m 0 1 0 1) : ACell), (.inr (.int, own_b m 0 3 1 0) : ACell), (.inr (.int, own_b m 0 0 0 1) : ACell)] (Is none [(.inl (0, [.ref 1, .ref 2, .ref 3, .ref 4, .ref 5]) : ACell), (.inr (.int, own_a 3 0) : ACell), (.inr (.int, own_a 3 0) : ACell), (.inr (.int, own_b m 0 0 0 1) : ACell), (.inr (.int, own_b m 0 3 1 0) : ACell), (.inr (.int, own_b m 0 0 0 0) : ACell)]) := by
  refine e5 ?_
  refine s5_0 ?_
  refine s5_1 rfl ?_
  refine s5_4 ?_
  refine s5_5 1 rfl (by decide) rfl ?_
  refine s5_6 rfl ?_
  refine s5_7 ?_
  refine s5_8 rfl ?_
  refine s5_11 ?_
  refine s5_12 1 rfl (by decide) rfl ?_
  refine s5_13 (fun _ => ?_) (fun h => absurd h (by decide))
  refine s5_31 ?_
  refine s5_32 rfl ?_
  refine s5_35 ?_
  refine s5_36 rfl ?_
  refine s5_39 ?_
  refine s5_40 1 rfl (by decide) rfl ?_
  refine s5_41 ?_
  refine s5_42 rfl ?_
  refine s5_45 ?_
  refine s5_46 1 rfl (by decide) rfl ?_
  refine s5_47 3 rfl (by decide) rfl ?_
  refine s5_48 ?_
  refine s5_49 rfl ?_
  refine s5_52 ?_
  refine s5_53 1 rfl (by decide) rfl ?_
  refine s5_54 (fun h => absurd h (by decide)) (fun _ => ?_)
  refine s5_57 ?_
  refine s5_58 rfl ?_
  refine s5_61 ?_
  refine s5_62 ?_
  refine s5_63 rfl ?_
  refine s5_66 ?_
  refine s5_67 1 rfl (by decide) rfl ?_
  refine s5_68 1 rfl (by decide) rfl ?_
  refine s5_69 ?_
  refine s5_89 ?_
  refine s5_90 rfl ?_
  refine s5_93 ?_
  refine s5_94 ?_
  refine s5_95 1 rfl (by decide) rfl ?_
  exact s5_96 ⟨rfl, rfl⟩
theorem own_r12 {m : Nat} : M3 ⟨0, 1, 1, 0⟩ [.ref 0, .int 1] [(.inl (0, [.ref 1, .ref 2, .ref 3, .ref 4, .ref 5]) : ACell), (.inr (.int, own_a 3 0) : ACell), (.inr (.int, own_a 3 0) : ACell), (.inr (.int, own_b m 0 0 0 1) : ACell), (.inr (.int, own_b m 0 3 1 0) : ACell), (.inr (.int, own_b m 0 0 0 0) : ACell)] (Is (some (.ref 6)) [(.inl (0, [.ref 1, .ref 2, .ref 3, .ref 4, .ref 5]) : ACell), (.inr (.int, own_a 3 0) : ACell), (.inr (.int, own_a 3 0) : ACell), (.inr (.int, own_b m 0 0 0 1) : ACell), (.inr (.int, own_b m 0 3 1 0) : ACell), (.inr (.int, own_b m 0 0 0 0) : ACell), (.inr (.int, [.int 3]) : ACell)]) := by
  refine e3 ?_
  refine s3_0 ?_
  refine s3_1 rfl ?_
  refine s3_2 ?_
  refine s3_3 rfl ?_
  refine s3_6 ?_
  refine s3_7 1 rfl (by decide) rfl ?_
  refine s3_8 rfl ?_
  refine s3_9 ?_
  refine s3_10 (fun h => absurd h (by decide)) (fun _ => ?_)
  refine s3_13 ?_
  refine s3_16 ?_
  refine s3_17 rfl ?_
  refine s3_20 ?_
  refine s3_21 3 rfl (by decide) rfl ?_
  refine s3_22 rfl ?_
  refine s3_23 ?_
  refine s3_9 ?_
  refine s3_10 (fun _ => ?_) (fun h => absurd h (by decide))
  refine s3_26 ?_
  refine s3_27 6 1 (by decide) rfl rfl ?_
  refine s3_29 rfl ?_
  refine s3_30 ?_
  refine s3_31 rfl ?_
  refine s3_33 ?_
  refine s3_34 rfl ?_
  refine s3_37 ?_
  refine s3_38 1 rfl (by decide) rfl ?_
  refine s3_39 rfl ?_
  refine s3_41 ?_
  refine s3_43 (fun h => absurd h (by decide)) (fun _ => ?_)
  refine s3_46 ?_
  refine s3_47 ?_
  refine s3_49 ?_
  refine s3_51 0 rfl (by decide) rfl ?_
  refine s3_52 ?_
  refine s3_55 ?_
  refine s3_56 rfl ?_
  refine s3_59 ?_
  refine s3_61 3 rfl (by decide) rfl ?_
  refine s3_62 rfl ?_
  refine s3_64 ?_
  refine s3_41 ?_
  refine s3_43 (fun _ => ?_) (fun h => absurd h (by decide))
  refine s3_67 ?_
  exact s3_68 ⟨rfl, rfl⟩
theorem own_r13 {m : Nat} : M4 ⟨0, 1, 4, 0⟩ [.ref 6, .int 1, .int 1, .int 1, .int 0, .int 1, .int 1, .int 0] [(.inl (0, [.ref 1, .ref 2, .ref 3, .ref 4, .ref 5]) : ACell), (.inr (.int, own_a 3 0) : ACell), (.inr (.int, own_a 3 0) : ACell), (.inr (.int, own_b m 0 0 0 1) : ACell), (.inr (.int, own_b m 0 3 1 0) : ACell), (.inr (.int, own_b m 0 0 0 0) : ACell), (.inr (.int, [.int 3]) : ACell)] (Is (some (.int 1)) [(.inl (0, [.ref 1, .ref 2, .ref 3, .ref 4, .ref 5]) : ACell), (.inr (.int, own_a 3 0) : ACell), (.inr (.int, own_a 3 0) : ACell), (.inr (.int, own_b m 0 0 0 1) : ACell), (.inr (.int, own_b m 0 3 1 0) : ACell), (.inr (.int, own_b m 0 0 0 0) : ACell), (.inr (.int, [.int 3]) : ACell), (.inr (.int, [.int 3, .int 0, .int 0, .int 0]) : ACell)]) := by
  refine e4 ?_
  refine s4_0 ?_
  refine s4_1 7 4 (by decide) rfl rfl ?_
  refine s4_3 rfl ?_
  refine s4_5 ?_
  refine s4_6 rfl ?_
  refine s4_8 ?_
  refine s4_9 ?_
  refine s4_10 (fun h => absurd h (by decide)) (fun _ => ?_)
  refine s4_13 ?_
  refine s4_15 (fun h => absurd h (by decide)) (fun _ => ?_)
  refine s4_18 ?_
  refine s4_20 ?_
  refine s4_22 ?_
  refine s4_23 0 rfl (by decide) rfl ?_
  refine s4_24 ?_
  refine s4_27 ?_
  refine s4_28 ?_
  refine s4_29 (fun h => absurd h (by decide)) (fun _ => ?_)
  refine s4_32 ?_
  refine s4_34 (fun _ => ?_) (fun h => absurd h (by decide))
  refine s4_46 ?_
  refine s4_47 ?_
  refine s4_48 (fun h => absurd h (by decide)) (fun _ => ?_)
  refine s4_51 ?_
  refine s4_53 (fun _ => ?_) (fun h => absurd h (by decide))
  refine s4_65 ?_
  refine s4_67 (fun _ => ?_) (fun h => absurd h (by decide))
  refine s4_84 ?_
  refine s4_85k 1 rfl rfl ?_
  refine s4_86 ?_
  refine s4_88 (fun h => absurd h (by decide)) (fun _ => ?_)
  refine s4_91 ?_
  refine s4_93 ?_
  refine s4_94 (fun h => absurd h (by decide)) (fun _ => ?_)
  refine s4_97 ?_
  refine s4_98 ?_
  refine s4_99 0 rfl (by decide) rfl ?_
  refine s4_100 ?_
  refine s4_102 ?_
  refine s4_103 0 rfl (by decide) rfl ?_
  refine s4_104 (fun h => absurd h (by decide)) (fun _ => ?_)
  refine s4_107 ?_
  refine s4_109 ?_
  refine s4_110 (fun _ => ?_) (fun h => absurd h (by decide))
  refine s4_123 ?_
  refine s4_125 ?_
  refine s4_126 (fun _ => ?_) (fun h => absurd h (by decide))
  refine s4_139 ?_
  refine s4_141 ?_
  refine s4_142 (fun _ => ?_) (fun h => absurd h (by decide))
  refine s4_155 ?_
  refine s4_156 ?_
  exact s4_160 ⟨rfl, rfl⟩
theorem own_r14 {m : Nat} : M2 ⟨0, 0, 0, 0⟩ [.ref 0, .int 1, .int 1] [(.inl (0, [.ref 1, .ref 2, .ref 3, .ref 4, .ref 5]) : ACell), (.inr (.int, own_a 3 0) : ACell), (.inr (.int, own_a 2 0) : ACell), (.inr (.int, own_b m 0 0 1 1) : ACell), (.inr (.int, own_b m 0 3 3 0) : ACell), (.inr (.int, own_b m 0 2 0 2) : ACell)] (Is none [(.inl (0, [.ref 1, .ref 2, .ref 3, .ref 4, .ref 5]) : ACell), (.inr (.int, own_a 3 0) : ACell), (.inr (.int, own_a 1 0) : ACell), (.inr (.int, own_b m 0 1 1 1) : ACell), (.inr (.int, own_b m 0 2 3 0) : ACell), (.inr (.int, own_b m 0 0 1 2) : ACell)]) := by
  refine e2 ?_
  refine s2_0 ?_
  refine s2_1 ?_
  refine s2_2 rfl ?_
  refine s2_5k 16 rfl rfl ?_
  refine s2_6 (fun _ => ?_) (fun h => absurd h (by decide))
  refine s2_45 ?_
  refine s2_46 rfl ?_
  refine s2_49 ?_
  refine s2_50 ?_
  refine s2_51 1 rfl (by decide) rfl ?_
  refine s2_52 ?_
  refine s2_53 rfl ?_
  refine s2_56 ?_
  refine s2_57 ?_
  refine s2_58 rfl ?_
  refine s2_61 ?_
  refine s2_62 1 rfl (by decide) rfl ?_
  refine s2_63 1 rfl (by decide) rfl ?_
  refine s2_64 ?_
  refine s2_65 rfl ?_
  refine s2_68 ?_
  refine s2_69 ?_
  refine s2_70 1 rfl (by decide) rfl ?_
  refine s2_71 ?_
  refine s2_72 rfl ?_
  refine s2_75 ?_
  refine s2_76 1 rfl (by decide) rfl ?_
  refine s2_77 (fun _ => ?_) (fun h => absurd h (by decide))
  refine s2_90 ?_
  refine s2_91 rfl ?_
  refine s2_94 ?_
  refine s2_95 rfl ?_
  refine s2_98 ?_
  refine s2_99 1 rfl (by decide) rfl ?_
  refine s2_100 ?_
  refine s2_101 2 rfl (by decide) rfl ?_
  refine s2_102 ?_
  refine s2_103 rfl ?_
  refine s2_106 ?_
  refine s2_107 ?_
  refine s2_108 1 rfl (by decide) rfl ?_
  exact s2_109 ⟨rfl, rfl⟩
theorem own_r15 {m : Nat} : M3 ⟨0, 1, 3, 0⟩ [.ref 0, .int 1] [(.inl (0, [.ref 1, .ref 2, .ref 3, .ref 4, .ref 5]) : ACell), (.inr (.int, own_a 3 0) : ACell), (.inr (.int, own_a 1 0) : ACell), (.inr (.int, own_b m 0 1 1 1) : ACell), (.inr (.int, own_b m 0 2 3 0) : ACell), (.inr (.int, own_b m 0 0 1 2) : ACell)] (Is (some (.ref 6)) [(.inl (0, [.ref 1, .ref 2, .ref 3, .ref 4, .ref 5]) : ACell), (.inr (.int, own_a 3 0) : ACell), (.inr (.int, own_a 1 0) : ACell), (.inr (.int, own_b m 0 1 1 1) : ACell), (.inr (.int, own_b m 0 2 3 0) : ACell), (.inr (.int, own_b m 0 0 1 2) : ACell), (.inr (.int, [.int 3, .int 2, .int 1]) : ACell)]) := by
  refine e3 ?_
  refine s3_0 ?_
  refine s3_1 rfl ?_
  refine s3_2 ?_
  refine s3_3 rfl ?_
  refine s3_6 ?_
  refine s3_7 1 rfl (by decide) rfl ?_
  refine s3_8 rfl ?_
  refine s3_9 ?_
  refine s3_10 (fun h => absurd h (by decide)) (fun _ => ?_)
  refine s3_13 ?_
  refine s3_16 ?_
  refine s3_17 rfl ?_
  refine s3_20 ?_
  refine s3_21 3 rfl (by decide) rfl ?_
  refine s3_22 rfl ?_
  refine s3_23 ?_
  refine s3_9 ?_
  refine s3_10 (fun h => absurd h (by decide)) (fun _ => ?_)
  refine s3_13 ?_
  refine s3_16 ?_
  refine s3_17 rfl ?_
  refine s3_20 ?_
  refine s3_21 2 rfl (by decide) rfl ?_
  refine s3_22 rfl ?_
  refine s3_23 ?_
  refine s3_9 ?_
  refine s3_10 (fun h => absurd h (by decide)) (fun _ => ?_)
  refine s3_13 ?_
  refine s3_16 ?_
  refine s3_17 rfl ?_
  refine s3_20 ?_
  refine s3_21 1 rfl (by decide) rfl ?_
  refine s3_22 rfl ?_
  refine s3_23 ?_
  refine s3_9 ?_
  refine s3_10 (fun _ => ?_) (fun h => absurd h (by decide))
  refine s3_26 ?_
  refine s3_27 6 3 (by decide) rfl rfl ?_
  refine s3_29 rfl ?_
  refine s3_30 ?_
  refine s3_31 rfl ?_
  refine s3_33 ?_
  refine s3_34 rfl ?_
  refine s3_37 ?_
  refine s3_38 1 rfl (by decide) rfl ?_
  refine s3_39 rfl ?_
  refine s3_41 ?_
  refine s3_43 (fun h => absurd h (by decide)) (fun _ => ?_)
  refine s3_46 ?_
  refine s3_47 ?_
  refine s3_49 ?_
  refine s3_51 0 rfl (by decide) rfl ?_
  refine s3_52 ?_
  refine s3_55 ?_
  refine s3_56 rfl ?_
  refine s3_59 ?_
  refine s3_61 3 rfl (by decide) rfl ?_
  refine s3_62 rfl ?_
  refine s3_64 ?_
  refine s3_41 ?_
  refine s3_43 (fun h => absurd h (by decide)) (fun _ => ?_)
  refine s3_46 ?_
  refine s3_47 ?_
  refine s3_49 ?_
  refine s3_51 1 rfl (by decide) rfl ?_
  refine s3_52 ?_
  refine s3_55 ?_
  refine s3_56 rfl ?_
  refine s3_59 ?_
  refine s3_61 2 rfl (by decide) rfl ?_
  refine s3_62 rfl ?_
  refine s3_64 ?_
  refine s3_41 ?_
  refine s3_43 (fun h => absurd h (by decide)) (fun _ => ?_)
  refine s3_46 ?_
  refine s3_47 ?_
  refine s3_49 ?_
  refine s3_51 2 rfl (by decide) rfl ?_
  refine s3_52 ?_
  refine s3_55 ?_
  refine s3_56 rfl ?_
  refine s3_59 ?_
  refine s3_61 1 rfl (by decide) rfl ?_
  refine s3_62 rfl ?_
  refine s3_64 ?_
  refine s3_41 ?_
  refine s3_43 (fun _ => ?_) (fun h => absurd h (by decide))
  refine s3_67 ?_
  exact s3_68 ⟨rfl, rfl⟩
theorem own_r16 {m : Nat} : M4 ⟨0, 1, 4, 0⟩ [.ref 6, .int 1, .int 1, .int 1, .int 0, .int 1, .int 0, .int 1] [(.inl (0, [.ref 1, .ref 2, .ref 3, .ref 4, .ref 5]) : ACell), (.inr (.int, own_a 3 0) : ACell), (.inr (.int, own_a 1 0) : ACell), (.inr (.int, own_b m 0 1 1 1) : ACell), (.inr (.int, own_b m 0 2 3 0) : ACell), (.inr (.int, own_b m 0 0 1 2) : ACell), (.inr (.int, [.int 3, .int 2, .int 1]) : ACell)] (Is (some (.int 1)) [(.inl (0, [.ref 1, .ref 2, .ref 3, .ref 4, .ref 5]) : ACell), (.inr (.int, own_a 3 0) : ACell), (.inr (.int, own_a 1 0) : ACell), (.inr (.int, own_b m 0 1 1 1) : ACell), (.inr (.int, own_b m 0 2 3 0) : ACell), (.inr (.int, own_b m 0 0 1 2) : ACell), (.inr (.int, [.int 3, .int 2, .int 1]) : ACell), (.inr (.int, [.int 3, .int 2, .int 1, .int 0]) : ACell)]) := by
  refine e4 ?_
  refine s4_0 ?_
  refine s4_1 7 4 (by decide) rfl rfl ?_
  refine s4_3 rfl ?_
  refine s4_5 ?_
  refine s4_6 rfl ?_
  refine s4_8 ?_
  refine s4_9 ?_
  refine s4_10 (fun h => absurd h (by decide)) (fun _ => ?_)
  refine s4_13 ?_
  refine s4_15 (fun h => absurd h (by decide)) (fun _ => ?_)
  refine s4_18 ?_
  refine s4_20 ?_
  refine s4_22 ?_
  refine s4_23 0 rfl (by decide) rfl ?_
  refine s4_24 ?_
  refine s4_27 ?_
  refine s4_28 ?_
  refine s4_29 (fun h => absurd h (by decide)) (fun _ => ?_)
  refine s4_32 ?_
  refine s4_34 (fun _ => ?_) (fun h => absurd h (by decide))
  refine s4_46 ?_
  refine s4_47 ?_
  refine s4_48 (fun h => absurd h (by decide)) (fun _ => ?_)
  refine s4_51 ?_
  refine s4_53 (fun h => absurd h (by decide)) (fun _ => ?_)
  refine s4_56 ?_
  refine s4_58 ?_
  refine s4_60 ?_
  refine s4_61 1 rfl (by decide) rfl ?_
  refine s4_62 ?_
  refine s4_65 ?_
  refine s4_67 (fun h => absurd h (by decide)) (fun _ => ?_)
  refine s4_70 ?_
  refine s4_71 ?_
  refine s4_72 (fun h => absurd h (by decide)) (fun _ => ?_)
  refine s4_75 ?_
  refine s4_77 ?_
  refine s4_79 ?_
  refine s4_80 2 rfl (by decide) rfl ?_
  refine s4_81 ?_
  refine s4_84 ?_
  refine s4_85k 3 rfl rfl ?_
  refine s4_86 ?_
  refine s4_88 (fun h => absurd h (by decide)) (fun _ => ?_)
  refine s4_91 ?_
  refine s4_93 ?_
  refine s4_94 (fun h => absurd h (by decide)) (fun _ => ?_)
  refine s4_97 ?_
  refine s4_98 ?_
  refine s4_99 0 rfl (by decide) rfl ?_
  refine s4_100 ?_
  refine s4_102 ?_
  refine s4_103 0 rfl (by decide) rfl ?_
  refine s4_104 (fun h => absurd h (by decide)) (fun _ => ?_)
  refine s4_107 ?_
  refine s4_109 ?_
  refine s4_110 (fun h => absurd h (by decide)) (fun _ => ?_)
  refine s4_113 ?_
  refine s4_114 ?_
  refine s4_115 1 rfl (by decide) rfl ?_
  refine s4_116 ?_
  refine s4_118 ?_
  refine s4_119 1 rfl (by decide) rfl ?_
  refine s4_120 (fun h => absurd h (by decide)) (fun _ => ?_)
  refine s4_123 ?_
  refine s4_125 ?_
  refine s4_126 (fun h => absurd h (by decide)) (fun _ => ?_)
  refine s4_129 ?_
  refine s4_130 ?_
  refine s4_131 2 rfl (by decide) rfl ?_
  refine s4_132 ?_
  refine s4_134 ?_
  refine s4_135 2 rfl (by decide) rfl ?_
  refine s4_136 (fun h => absurd h (by decide)) (fun _ => ?_)
  refine s4_139 ?_
  refine s4_141 ?_
  refine s4_142 (fun _ => ?_) (fun h => absurd h (by decide))
  refine s4_155 ?_
  refine s4_156 ?_
  exact s4_160 ⟨rfl, rfl⟩
theorem own_r17 {m : Nat} : M2 ⟨0, 0, 0, 0⟩ [.ref 0, .int 1, .int 1] [(.inl (0, [.ref 1, .ref 2, .ref 3, .ref 4, .ref 5]) : ACell), (.inr (.int, own_a 3 0) : ACell), (.inr (.int, own_a 3 0) : ACell), (.inr (.int, own_b m 0 0 0 1) : ACell), (.inr (.int, own_b m 0 3 1 0) : ACell), (.inr (.int, own_b m 0 0 0 0) : ACell)] (Is none [(.inl (0, [.ref 1, .ref 2, .ref 3, .ref 4, .ref 5]) : ACell), (.inr (.int, own_a 3 0) : ACell), (.inr (.int, own_a 1 0) : ACell), (.inr (.int, own_b m 0 1 0 1) : ACell), (.inr (.int, own_b m 0 3 1 0) : ACell), (.inr (.int, own_b m 0 0 0 1) : ACell)]) := by
  refine e2 ?_
  refine s2_0 ?_
  refine s2_1 ?_
  refine s2_2 rfl ?_
  refine s2_5k 16 rfl rfl ?_
  refine s2_6 (fun _ => ?_) (fun h => absurd h (by decide))
  refine s2_45 ?_
  refine s2_46 rfl ?_
  refine s2_49 ?_
  refine s2_50 ?_
  refine s2_51 1 rfl (by decide) rfl ?_
  refine s2_52 ?_
  refine s2_53 rfl ?_
  refine s2_56 ?_
  refine s2_57 ?_
  refine s2_58 rfl ?_
  refine s2_61 ?_
  refine s2_62 1 rfl (by decide) rfl ?_
  refine s2_63 1 rfl (by decide) rfl ?_
  refine s2_64 ?_
  refine s2_65 rfl ?_
  refine s2_68 ?_
  refine s2_69 ?_
  refine s2_70 1 rfl (by decide) rfl ?_
  refine s2_71 ?_
  refine s2_72 rfl ?_
  refine s2_75 ?_
  refine s2_76 1 rfl (by decide) rfl ?_
  refine s2_77 (fun _ => ?_) (fun h => absurd h (by decide))
  refine s2_90 ?_
  refine s2_91 rfl ?_
  refine s2_94 ?_
  refine s2_95 rfl ?_
  refine s2_98 ?_
  refine s2_99 1 rfl (by decide) rfl ?_
  refine s2_100 ?_
  refine s2_101 3 rfl (by decide) rfl ?_
  refine s2_102 ?_
  refine s2_103 rfl ?_
  refine s2_106 ?_
  refine s2_107 ?_
  refine s2_108 1 rfl (by decide) rfl ?_
  exact s2_109 ⟨rfl, rfl⟩
theorem own_r18 {m : Nat} : M4 ⟨0, 1, 4, 0⟩ [.ref 6, .int 1, .int 1, .int 1, .int 0, .int 1, .int 1, .int 1] [(.inl (0, [.ref 1, .ref 2, .ref 3, .ref 4, .ref 5]) : ACell), (.inr (.int, own_a 3 0) : ACell), (.inr (.int, own_a 1 0) : ACell), (.inr (.int, own_b m 0 1 0 1) : ACell), (.inr (.int, own_b m 0 3 1 0) : ACell), (.inr (.int, own_b m 0 0 0 1) : ACell), (.inr (.int, [.int 3, .int 1]) : ACell)] (Is (some (.int 1)) [(.inl (0, [.ref 1, .ref 2, .ref 3, .ref 4, .ref 5]) : ACell), (.inr (.int, own_a 3 0) : ACell), (.inr (.int, own_a 1 0) : ACell), (.inr (.int, own_b m 0 1 0 1) : ACell), (.inr (.int, own_b m 0 3 1 0) : ACell), (.inr (.int, own_b m 0 0 0 1) : ACell), (.inr (.int, [.int 3, .int 1]) : ACell), (.inr (.int, [.int 3, .int 1, .int 0, .int 0]) : ACell)]) := by
  refine e4 ?_
  refine s4_0 ?_
  refine s4_1 7 4 (by decide) rfl rfl ?_
  refine s4_3 rfl ?_
  refine s4_5 ?_
  refine s4_6 rfl ?_
  refine s4_8 ?_
  refine s4_9 ?_
  refine s4_10 (fun h => absurd h (by decide)) (fun _ => ?_)
  refine s4_13 ?_
  refine s4_15 (fun h => absurd h (by decide)) (fun _ => ?_)
  refine s4_18 ?_
  refine s4_20 ?_
  refine s4_22 ?_
  refine s4_23 0 rfl (by decide) rfl ?_
  refine s4_24 ?_
  refine s4_27 ?_
  refine s4_28 ?_
  refine s4_29 (fun h => absurd h (by decide)) (fun _ => ?_)
  refine s4_32 ?_
  refine s4_34 (fun _ => ?_) (fun h => absurd h (by decide))
  refine s4_46 ?_
  refine s4_47 ?_
  refine s4_48 (fun h => absurd h (by decide)) (fun _ => ?_)
  refine s4_51 ?_
  refine s4_53 (fun _ => ?_) (fun h => absurd h (by decide))
  refine s4_65 ?_
  refine s4_67 (fun h => absurd h (by decide)) (fun _ => ?_)
  refine s4_70 ?_
  refine s4_71 ?_
  refine s4_72 (fun h => absurd h (by decide)) (fun _ => ?_)
  refine s4_75 ?_
  refine s4_77 ?_
  refine s4_79 ?_
  refine s4_80 1 rfl (by decide) rfl ?_
  refine s4_81 ?_
  refine s4_84 ?_
  refine s4_85k 2 rfl rfl ?_
  refine s4_86 ?_
  refine s4_88 (fun h => absurd h (by decide)) (fun _ => ?_)
  refine s4_91 ?_
  refine s4_93 ?_
  refine s4_94 (fun h => absurd h (by decide)) (fun _ => ?_)
  refine s4_97 ?_
  refine s4_98 ?_
  refine s4_99 0 rfl (by decide) rfl ?_
  refine s4_100 ?_
  refine s4_102 ?_
  refine s4_103 0 rfl (by decide) rfl ?_
  refine s4_104 (fun h => absurd h (by decide)) (fun _ => ?_)
  refine s4_107 ?_
  refine s4_109 ?_
  refine s4_110 (fun h => absurd h (by decide)) (fun _ => ?_)
  refine s4_113 ?_
  refine s4_114 ?_
  refine s4_115 1 rfl (by decide) rfl ?_
  refine s4_116 ?_
  refine s4_118 ?_
  refine s4_119 1 rfl (by decide) rfl ?_
  refine s4_120 (fun h => absurd h (by decide)) (fun _ => ?_)
  refine s4_123 ?_
  refine s4_125 ?_
  refine s4_126 (fun _ => ?_) (fun h => absurd h (by decide))
  refine s4_139 ?_
  refine s4_141 ?_
  refine s4_142 (fun _ => ?_) (fun h => absurd h (by decide))
  refine s4_155 ?_
  refine s4_156 ?_
  exact s4_160 ⟨rfl, rfl⟩
theorem own_r19 {m : Nat} : M5 ⟨0, 0, 0, 0⟩ [.ref 0, .int 3] [(.inl (0, [.ref 1, .ref 2, .ref 3, .ref 4, .ref 5]) : ACell), (.inr (.int, own_a 3 0) : ACell), (.inr (.int, own_a 2 0) : ACell), (.inr (.int, own_b m 0 1 1 1) : ACell), (.inr (.int, own_b m 0 3 1 0) : ACell), (.inr (.int, own_b m 0 2 0 1) : ACell)] (Is none [(.inl (0, [.ref 1, .ref 2, .ref 3, .ref 4, .ref 5]) : ACell), (.inr (.int, own_a 1 0) : ACell), (.inr (.int, own_a 2 0) : ACell), (.inr (.int, own_b m 0 1 1 0) : ACell), (.inr (.int, own_b m 0 0 1 0) : ACell), (.inr (.int, own_b m 0 2 0 1) : ACell)]) := by
  refine e5 ?_
  refine s5_0 ?_
  refine s5_1 rfl ?_
  refine s5_4 ?_
  refine s5_5 3 rfl (by decide) rfl ?_
  refine s5_6 rfl ?_
  refine s5_7 ?_
  refine s5_8 rfl ?_
  refine s5_11 ?_
  refine s5_12 3 rfl (by decide) rfl ?_
  refine s5_13 (fun h => absurd h (by decide)) (fun _ => ?_)
  refine s5_16 ?_
  refine s5_17 rfl ?_
  refine s5_20 ?_
  refine s5_21 ?_
  refine s5_22 rfl ?_
  refine s5_25 ?_
  refine s5_26 3 rfl (by decide) rfl ?_
  refine s5_27 1 rfl (by decide) rfl ?_
  refine s5_28 ?_
  refine s5_48 ?_
  refine s5_49 rfl ?_
  refine s5_52 ?_
  refine s5_53 3 rfl (by decide) rfl ?_
  refine s5_54 (fun _ => ?_) (fun h => absurd h (by decide))
  refine s5_72 ?_
  refine s5_73 rfl ?_
  refine s5_76 ?_
  refine s5_77 rfl ?_
  refine s5_80 ?_
  refine s5_81 3 rfl (by decide) rfl ?_
  refine s5_82 ?_
  refine s5_83 rfl ?_
  refine s5_86 ?_
  refine s5_87 3 rfl (by decide) rfl ?_
  refine s5_88 1 rfl (by decide) rfl ?_
  refine s5_89 ?_
  refine s5_90 rfl ?_
  refine s5_93 ?_
  refine s5_94 ?_
  refine s5_95 3 rfl (by decide) rfl ?_
  exact s5_96 ⟨rfl, rfl⟩
theorem own_r20 {m : Nat} : M3 ⟨0, 1, 2, 0⟩ [.ref 0, .int 1] [(.inl (0, [.ref 1, .ref 2, .ref 3, .ref 4, .ref 5]) : ACell), (.inr (.int, own_a 1 0) : ACell), (.inr (.int, own_a 2 0) : ACell), (.inr (.int, own_b m 0 1 1 0) : ACell), (.inr (.int, own_b m 0 0 1 0) : ACell), (.inr (.int, own_b m 0 2 0 1) : ACell)] (Is (some (.ref 6)) [(.inl (0, [.ref 1, .ref 2, .ref 3, .ref 4, .ref 5]) : ACell), (.inr (.int, own_a 1 0) : ACell), (.inr (.int, own_a 2 0) : ACell), (.inr (.int, own_b m 0 1 1 0) : ACell), (.inr (.int, own_b m 0 0 1 0) : ACell), (.inr (.int, own_b m 0 2 0 1) : ACell), (.inr (.int, [.int 1, .int 2]) : ACell)]) := by
  refine e3 ?_
  refine s3_0 ?_
  refine s3_1 rfl ?_
  refine s3_2 ?_
  refine s3_3 rfl ?_
  refine s3_6 ?_
  refine s3_7 1 rfl (by decide) rfl ?_
  refine s3_8 rfl ?_
  refine s3_9 ?_
  refine s3_10 (fun h => absurd h (by decide)) (fun _ => ?_)
  refine s3_13 ?_
  refine s3_16 ?_
  refine s3_17 rfl ?_
  refine s3_20 ?_
  refine s3_21 1 rfl (by decide) rfl ?_
  refine s3_22 rfl ?_
  refine s3_23 ?_
  refine s3_9 ?_
  refine s3_10 (fun h => absurd h (by decide)) (fun _ => ?_)
  refine s3_13 ?_
  refine s3_16 ?_
  refine s3_17 rfl ?_
  refine s3_20 ?_
  refine s3_21 2 rfl (by decide) rfl ?_
  refine s3_22 rfl ?_
  refine s3_23 ?_
  refine s3_9 ?_
  refine s3_10 (fun _ => ?_) (fun h => absurd h (by decide))
  refine s3_26 ?_
  refine s3_27 6 2 (by decide) rfl rfl ?_
  refine s3_29 rfl ?_
  refine s3_30 ?_
  refine s3_31 rfl ?_
  refine s3_33 ?_
  refine s3_34 rfl ?_
  refine s3_37 ?_
  refine s3_38 1 rfl (by decide) rfl ?_
  refine s3_39 rfl ?_
  refine s3_41 ?_
  refine s3_43 (fun h => absurd h (by decide)) (fun _ => ?_)
  refine s3_46 ?_
  refine s3_47 ?_
  refine s3_49 ?_
  refine s3_51 0 rfl (by decide) rfl ?_
  refine s3_52 ?_
  refine s3_55 ?_
  refine s3_56 rfl ?_
  refine s3_59 ?_
  refine s3_61 1 rfl (by decide) rfl ?_
  refine s3_62 rfl ?_
  refine s3_64 ?_
  refine s3_41 ?_
  refine s3_43 (fun h => absurd h (by decide)) (fun _ => ?_)
  refine s3_46 ?_
  refine s3_47 ?_
  refine s3_49 ?_
  refine s3_51 1 rfl (by decide) rfl ?_
  refine s3_52 ?_
  refine s3_55 ?_
  refine s3_56 rfl ?_
  refine s3_59 ?_
  refine s3_61 2 rfl (by decide) rfl ?_
  refine s3_62 rfl ?_
  refine s3_64 ?_
  refine s3_41 ?_
  refine s3_43 (fun _ => ?_) (fun h => absurd h (by decide))
  refine s3_67 ?_
  exact s3_68 ⟨rfl, rfl⟩
theorem own_r21 {m : Nat} : M4 ⟨0, 1, 4, 0⟩ [.ref 6, .int 1, .int 1, .int 1, .int 1, .int 0, .int 0, .int 0] [(.inl (0, [.ref 1, .ref 2, .ref 3, .ref 4, .ref 5]) : ACell), (.inr (.int, own_a 1 0) : ACell), (.inr (.int, own_a 2 0) : ACell), (.inr (.int, own_b m 0 1 1 0) : ACell), (.inr (.int, own_b m 0 0 1 0) : ACell), (.inr (.int, own_b m 0 2 0 1) : ACell), (.inr (.int, [.int 1, .int 2]) : ACell)] (Is (some (.int 1)) [(.inl (0, [.ref 1, .ref 2, .ref 3, .ref 4, .ref 5]) : ACell), (.inr (.int, own_a 1 0) : ACell), (.inr (.int, own_a 2 0) : ACell), (.inr (.int, own_b m 0 1 1 0) : ACell), (.inr (.int, own_b m 0 0 1 0) : ACell), (.inr (.int, own_b m 0 2 0 1) : ACell), (.inr (.int, [.int 1, .int 2]) : ACell), (.inr (.int, [.int 1, .int 2, .int 0, .int 0]) : ACell)]) := by
  refine e4 ?_
  refine s4_0 ?_
  refine s4_1 7 4 (by decide) rfl rfl ?_
  refine s4_3 rfl ?_
  refine s4_5 ?_
  refine s4_6 rfl ?_
  refine s4_8 ?_
  refine s4_9 ?_
  refine s4_10 (fun h => absurd h (by decide)) (fun _ => ?_)
  refine s4_13 ?_
  refine s4_15 (fun _ => ?_) (fun h => absurd h (by decide))
  refine s4_27 ?_
  refine s4_28 ?_
  refine s4_29 (fun h => absurd h (by decide)) (fun _ => ?_)
  refine s4_32 ?_
  refine s4_34 (fun h => absurd h (by decide)) (fun _ => ?_)
  refine s4_37 ?_
  refine s4_39 ?_
  refine s4_41 ?_
  refine s4_42 0 rfl (by decide) rfl ?_
  refine s4_43 ?_
  refine s4_46 ?_
  refine s4_47 ?_
  refine s4_48 (fun h => absurd h (by decide)) (fun _ => ?_)
  refine s4_51 ?_
  refine s4_53 (fun h => absurd h (by decide)) (fun _ => ?_)
  refine s4_56 ?_
  refine s4_58 ?_
  refine s4_60 ?_
  refine s4_61 1 rfl (by decide) rfl ?_
  refine s4_62 ?_
  refine s4_65 ?_
  refine s4_67 (fun _ => ?_) (fun h => absurd h (by decide))
  refine s4_84 ?_
  refine s4_85k 2 rfl rfl ?_
  refine s4_86 ?_
  refine s4_88 (fun h => absurd h (by decide)) (fun _ => ?_)
  refine s4_91 ?_
  refine s4_93 ?_
  refine s4_94 (fun h => absurd h (by decide)) (fun _ => ?_)
  refine s4_97 ?_
  refine s4_98 ?_
  refine s4_99 0 rfl (by decide) rfl ?_
  refine s4_100 ?_
  refine s4_102 ?_
  refine s4_103 0 rfl (by decide) rfl ?_
  refine s4_104 (fun h => absurd h (by decide)) (fun _ => ?_)
  refine s4_107 ?_
  refine s4_109 ?_
  refine s4_110 (fun h => absurd h (by decide)) (fun _ => ?_)
  refine s4_113 ?_
  refine s4_114 ?_
  refine s4_115 1 rfl (by decide) rfl ?_
  refine s4_116 ?_
  refine s4_118 ?_
  refine s4_119 1 rfl (by decide) rfl ?_
  refine s4_120 (fun h => absurd h (by decide)) (fun _ => ?_)
  refine s4_123 ?_
  refine s4_125 ?_
  refine s4_126 (fun _ => ?_) (fun h => absurd h (by decide))
  refine s4_139 ?_
  refine s4_141 ?_
  refine s4_142 (fun _ => ?_) (fun h => absurd h (by decide))
  refine s4_155 ?_
  refine s4_156 ?_
  exact s4_160 ⟨rfl, rfl⟩
theorem own_r22 {m : Nat} : M5 ⟨0, 0, 0, 0⟩ [.ref 0, .int 3] [(.inl (0, [.ref 1, .ref 2, .ref 3, .ref 4, .ref 5]) : ACell), (.inr (.int, own_a 3 0) : ACell), (.inr (.int, own_a 1 0) : ACell), (.inr (.int, own_b m 0 1 0 1) : ACell), (.inr (.int, own_b m 0 3 1 0) : ACell), (.inr (.int, own_b m 0 0 0 1) : ACell)] (Is none [(.inl (0, [.ref 1, .ref 2, .ref 3, .ref 4, .ref 5]) : ACell), (.inr (.int, own_a 1 0) : ACell), (.inr (.int, own_a 1 0) : ACell), (.inr (.int, own_b m 0 1 0 0) : ACell), (.inr (.int, own_b m 0 0 1 0) : ACell), (.inr (.int, own_b m 0 0 0 1) : ACell)]) := by
  refine e5 ?_
  refine s5_0 ?_
  refine s5_1 rfl ?_
  refine s5_4 ?_
  refine s5_5 3 rfl (by decide) rfl ?_
  refine s5_6 rfl ?_
  refine s5_7 ?_
  refine s5_8 rfl ?_
  refine s5_11 ?_
  refine s5_12 3 rfl (by decide) rfl ?_
  refine s5_13 (fun h => absurd h (by decide)) (fun _ => ?_)
  refine s5_16 ?_
  refine s5_17 rfl ?_
  refine s5_20 ?_
  refine s5_21 ?_
  refine s5_22 rfl ?_
  refine s5_25 ?_
  refine s5_26 3 rfl (by decide) rfl ?_
  refine s5_27 1 rfl (by decide) rfl ?_
  refine s5_28 ?_
  refine s5_48 ?_
  refine s5_49 rfl ?_
  refine s5_52 ?_
  refine s5_53 3 rfl (by decide) rfl ?_
  refine s5_54 (fun _ => ?_) (fun h => absurd h (by decide))
  refine s5_72 ?_
  refine s5_73 rfl ?_
  refine s5_76 ?_
  refine s5_77 rfl ?_
  refine s5_80 ?_
  refine s5_81 3 rfl (by decide) rfl ?_
  refine s5_82 ?_
  refine s5_83 rfl ?_
  refine s5_86 ?_
  refine s5_87 3 rfl (by decide) rfl ?_
  refine s5_88 1 rfl (by decide) rfl ?_
  refine s5_89 ?_
  refine s5_90 rfl ?_
  refine s5_93 ?_
  refine s5_94 ?_
  refine s5_95 3 rfl (by decide) rfl ?_
  exact s5_96 ⟨rfl, rfl⟩
theorem own_r23 {m : Nat} : M3 ⟨0, 1, 1, 0⟩ [.ref 0, .int 1] [(.inl (0, [.ref 1, .ref 2, .ref 3, .ref 4, .ref 5]) : ACell), (.inr (.int, own_a 1 0) : ACell), (.inr (.int, own_a 1 0) : ACell), (.inr (.int, own_b m 0 1 0 0) : ACell), (.inr (.int, own_b m 0 0 1 0) : ACell), (.inr (.int, own_b m 0 0 0 1) : ACell)] (Is (some (.ref 6)) [(.inl (0, [.ref 1, .ref 2, .ref 3, .ref 4, .ref 5]) : ACell), (.inr (.int, own_a 1 0) : ACell), (.inr (.int, own_a 1 0) : ACell), (.inr (.int, own_b m 0 1 0 0) : ACell), (.inr (.int, own_b m 0 0 1 0) : ACell), (.inr (.int, own_b m 0 0 0 1) : ACell), (.inr (.int, [.int 1]) : ACell)]) := by
  refine e3 ?_
  refine s3_0 ?_
  refine s3_1 rfl ?_
  refine s3_2 ?_
  refine s3_3 rfl ?_
  refine s3_6 ?_
  refine s3_7 1 rfl (by decide) rfl ?_
  refine s3_8 rfl ?_
  refine s3_9 ?_
  refine s3_10 (fun h => absurd h (by decide)) (fun _ => ?_)
  refine s3_13 ?_
  refine s3_16 ?_
  refine s3_17 rfl ?_
  refine s3_20 ?_
  refine s3_21 1 rfl (by decide) rfl ?_
  refine s3_22 rfl ?_
  refine s3_23 ?_
  refine s3_9 ?_
  refine s3_10 (fun _ => ?_) (fun h => absurd h (by decide))
  refine s3_26 ?_
  refine s3_27 6 1 (by decide) rfl rfl ?_
  refine s3_29 rfl ?_
  refine s3_30 ?_
  refine s3_31 rfl ?_
  refine s3_33 ?_
  refine s3_34 rfl ?_
  refine s3_37 ?_
  refine s3_38 1 rfl (by decide) rfl ?_
  refine s3_39 rfl ?_
  refine s3_41 ?_
  refine s3_43 (fun h => absurd h (by decide)) (fun _ => ?_)
  refine s3_46 ?_
  refine s3_47 ?_
  refine s3_49 ?_
  refine s3_51 0 rfl (by decide) rfl ?_
  refine s3_52 ?_
  refine s3_55 ?_
  refine s3_56 rfl ?_
  refine s3_59 ?_
  refine s3_61 1 rfl (by decide) rfl ?_
  refine s3_62 rfl ?_
  refine s3_64 ?_
  refine s3_41 ?_
  refine s3_43 (fun _ => ?_) (fun h => absurd h (by decide))
  refine s3_67 ?_
  exact s3_68 ⟨rfl, rfl⟩
theorem own_r24 {m : Nat} : M4 ⟨0, 1, 4, 0⟩ [.ref 6, .int 1, .int 1, .int 1, .int 1, .int 0, .int 1, .int 0] [(.inl (0, [.ref 1, .ref 2, .ref 3, .ref 4, .ref 5]) : ACell), (.inr (.int, own_a 1 0) : ACell), (.inr (.int, own_a 1 0) : ACell), (.inr (.int, own_b m 0 1 0 0) : ACell), (.inr (.int, own_b m 0 0 1 0) : ACell), (.inr (.int, own_b m 0 0 0 1) : ACell), (.inr (.int, [.int 1]) : ACell)] (Is (some (.int 1)) [(.inl (0, [.ref 1, .ref 2, .ref 3, .ref 4, .ref 5]) : ACell), (.inr (.int, own_a 1 0) : ACell), (.inr (.int, own_a 1 0) : ACell), (.inr (.int, own_b m 0 1 0 0) : ACell), (.inr (.int, own_b m 0 0 1 0) : ACell), (.inr (.int, own_b m 0 0 0 1) : ACell), (.inr (.int, [.int 1]) : ACell), (.inr (.int, [.int 1, .int 0, .int 0, .int 0]) : ACell)]) := by
  refine e4 ?_
  refine s4_0 ?_
  refine s4_1 7 4 (by decide) rfl rfl ?_
  refine s4_3 rfl ?_
  refine s4_5 ?_
  refine s4_6 rfl ?_
  refine s4_8 ?_
  refine s4_9 ?_
  refine s4_10 (fun h => absurd h (by decide)) (fun _ => ?_)
  refine s4_13 ?_
  refine s4_15 (fun _ => ?_) (fun h => absurd h (by decide))
  refine s4_27 ?_
  refine s4_28 ?_
  refine s4_29 (fun h => absurd h (by decide)) (fun _ => ?_)
  refine s4_32 ?_
  refine s4_34 (fun h => absurd h (by decide)) (fun _ => ?_)
  refine s4_37 ?_
  refine s4_39 ?_
  refine s4_41 ?_
  refine s4_42 0 rfl (by decide) rfl ?_
  refine s4_43 ?_
  refine s4_46 ?_
  refine s4_47 ?_
  refine s4_48 (fun h => absurd h (by decide)) (fun _ => ?_)
  refine s4_51 ?_
  refine s4_53 (fun _ => ?_) (fun h => absurd h (by decide))
  refine s4_65 ?_
  refine s4_67 (fun _ => ?_) (fun h => absurd h (by decide))
  refine s4_84 ?_
  refine s4_85k 1 rfl rfl ?_
  refine s4_86 ?_
  refine s4_88 (fun h => absurd h (by decide)) (fun _ => ?_)
  refine s4_91 ?_
  refine s4_93 ?_
  refine s4_94 (fun h => absurd h (by decide)) (fun _ => ?_)
  refine s4_97 ?_
  refine s4_98 ?_
  refine s4_99 0 rfl (by decide) rfl ?_
  refine s4_100 ?_
  refine s4_102 ?_
  refine s4_103 0 rfl (by decide) rfl ?_
  refine s4_104 (fun h => absurd h (by decide)) (fun _ => ?_)
  refine s4_107 ?_
  refine s4_109 ?_
  refine s4_110 (fun _ => ?_) (fun h => absurd h (by decide))
  refine s4_123 ?_
  refine s4_125 ?_
  refine s4_126 (fun _ => ?_) (fun h => absurd h (by decide))
  refine s4_139 ?_
  refine s4_141 ?_
  refine s4_142 (fun _ => ?_) (fun h => absurd h (by decide))
  refine s4_155 ?_
  refine s4_156 ?_
  exact s4_160 ⟨rfl, rfl⟩
theorem own_r25 {m : Nat} : M5 ⟨0, 0, 0, 0⟩ [.ref 0, .int 1] [(.inl (0, [.ref 1, .ref 2, .ref 3, .ref 4, .ref 5]) : ACell), (.inr (.int, own_a 1 0) : ACell), (.inr (.int, own_a 2 0) : ACell), (.inr (.int, own_b m 0 1 1 0) : ACell), (.inr (.int, own_b m 0 0 1 0) : ACell), (.inr (.int, own_b m 0 2 0 1) : ACell)] (Is none [(.inl (0, [.ref 1, .ref 2, .ref 3, .ref 4, .ref 5]) : ACell), (.inr (.int, own_a 2 0) : ACell), (.inr (.int, own_a 2 0) : ACell), (.inr (.int, own_b m 0 0 1 0) : ACell), (.inr (.int, own_b m 0 0 0 0) : ACell), (.inr (.int, own_b m 0 2 0 1) : ACell)]) := by
  refine e5 ?_
  refine s5_0 ?_
  refine s5_1 rfl ?_
  refine s5_4 ?_
  refine s5_5 1 rfl (by decide) rfl ?_
  refine s5_6 rfl ?_
  refine s5_7 ?_
  refine s5_8 rfl ?_
  refine s5_11 ?_
  refine s5_12 1 rfl (by decide) rfl ?_
  refine s5_13 (fun h => absurd h (by decide)) (fun _ => ?_)
  refine s5_16 ?_
  refine s5_17 rfl ?_
  refine s5_20 ?_
  refine s5_21 ?_
  refine s5_22 rfl ?_
  refine s5_25 ?_
  refine s5_26 1 rfl (by decide) rfl ?_
  refine s5_27 1 rfl (by decide) rfl ?_
  refine s5_28 ?_
  refine s5_48 ?_
  refine s5_49 rfl ?_
  refine s5_52 ?_
  refine s5_53 1 rfl (by decide) rfl ?_
  refine s5_54 (fun _ => ?_) (fun h => absurd h (by decide))
  refine s5_72 ?_
  refine s5_73 rfl ?_
  refine s5_76 ?_
  refine s5_77 rfl ?_
  refine s5_80 ?_
  refine s5_81 1 rfl (by decide) rfl ?_
  refine s5_82 ?_
  refine s5_83 rfl ?_
  refine s5_86 ?_
  refine s5_87 1 rfl (by decide) rfl ?_
  refine s5_88 2 rfl (by decide) rfl ?_
  refine s5_89 ?_
  refine s5_90 rfl ?_
  refine s5_93 ?_
  refine s5_94 ?_
  refine s5_95 1 rfl (by decide) rfl ?_
  exact s5_96 ⟨rfl, rfl⟩
theorem own_r26 {m : Nat} : M3 ⟨0, 1, 1, 0⟩ [.ref 0, .int 1] [(.inl (0, [.ref 1, .ref 2, .ref 3, .ref 4, .ref 5]) : ACell), (.inr (.int, own_a 2 0) : ACell), (.inr (.int, own_a 2 0) : ACell), (.inr (.int, own_b m 0 0 1 0) : ACell), (.inr (.int, own_b m 0 0 0 0) : ACell), (.inr (.int, own_b m 0 2 0 1) : ACell)] (Is (some (.ref 6)) [(.inl (0, [.ref 1, .ref 2, .ref 3, .ref 4, .ref 5]) : ACell), (.inr (.int, own_a 2 0) : ACell), (.inr (.int, own_a 2 0) : ACell), (.inr (.int, own_b m 0 0 1 0) : ACell), (.inr (.int, own_b m 0 0 0 0) : ACell), (.inr (.int, own_b m 0 2 0 1) : ACell), (.inr (.int, [.int 2]) : ACell)]) := by
  refine e3 ?_
  refine s3_0 ?_
  refine s3_1 rfl ?_
  refine s3_2 ?_
  refine s3_3 rfl ?_
  refine s3_6 ?_
  refine s3_7 1 rfl (by decide) rfl ?_
  refine s3_8 rfl ?_
  refine s3_9 ?_
  refine s3_10 (fun h => absurd h (by decide)) (fun _ => ?_)
  refine s3_13 ?_
  refine s3_16 ?_
  refine s3_17 rfl ?_
  refine s3_20 ?_
  refine s3_21 2 rfl (by decide) rfl ?_
  refine s3_22 rfl ?_
  refine s3_23 ?_
  refine s3_9 ?_
  refine s3_10 (fun _ => ?_) (fun h => absurd h (by decide))
  refine s3_26 ?_
  refine s3_27 6 1 (by decide) rfl rfl ?_
  refine s3_29 rfl ?_
  refine s3_30 ?_
  refine s3_31 rfl ?_
  refine s3_33 ?_
  refine s3_34 rfl ?_
  refine s3_37 ?_
  refine s3_38 1 rfl (by decide) rfl ?_
  refine s3_39 rfl ?_
  refine s3_41 ?_
  refine s3_43 (fun h => absurd h (by decide)) (fun _ => ?_)
  refine s3_46 ?_
  refine s3_47 ?_
  refine s3_49 ?_
  refine s3_51 0 rfl (by decide) rfl ?_
  refine s3_52 ?_
  refine s3_55 ?_
  refine s3_56 rfl ?_
  refine s3_59 ?_
  refine s3_61 2 rfl (by decide) rfl ?_
  refine s3_62 rfl ?_
  refine s3_64 ?_
  refine s3_41 ?_
  refine s3_43 (fun _ => ?_) (fun h => absurd h (by decide))
  refine s3_67 ?_
  exact s3_68 ⟨rfl, rfl⟩
theorem own_r27 {m : Nat} : M4 ⟨0, 1, 4, 0⟩ [.ref 6, .int 1, .int 1, .int 1, .int 1, .int 1, .int 0, .int 0] [(.inl (0, [.ref 1, .ref 2, .ref 3, .ref 4, .ref 5]) : ACell), (.inr (.int, own_a 2 0) : ACell), (.inr (.int, own_a 2 0) : ACell), (.inr (.int, own_b m 0 0 1 0) : ACell), (.inr (.int, own_b m 0 0 0 0) : ACell), (.inr (.int, own_b m 0 2 0 1) : ACell), (.inr (.int, [.int 2]) : ACell)] (Is (some (.int 1)) [(.inl (0, [.ref 1, .ref 2, .ref 3, .ref 4, .ref 5]) : ACell), (.inr (.int, own_a 2 0) : ACell), (.inr (.int, own_a 2 0) : ACell), (.inr (.int, own_b m 0 0 1 0) : ACell), (.inr (.int, own_b m 0 0 0 0) : ACell), (.inr (.int, own_b m 0 2 0 1) : ACell), (.inr (.int, [.int 2]) : ACell), (.inr (.int, [.int 2, .int 0, .int 0, .int 0]) : ACell)]) := by
  refine e4 ?_
  refine s4_0 ?_
  refine s4_1 7 4 (by decide) rfl rfl ?_
  refine s4_3 rfl ?_
  refine s4_5 ?_
  refine s4_6 rfl ?_
  refine s4_8 ?_
  refine s4_9 ?_
  refine s4_10 (fun h => absurd h (by decide)) (fun _ => ?_)
  refine s4_13 ?_
  refine s4_15 (fun _ => ?_) (fun h => absurd h (by decide))
  refine s4_27 ?_
  refine s4_28 ?_
  refine s4_29 (fun h => absurd h (by decide)) (fun _ => ?_)
  refine s4_32 ?_
  refine s4_34 (fun _ => ?_) (fun h => absurd h (by decide))
  refine s4_46 ?_
  refine s4_47 ?_
  refine s4_48 (fun h => absurd h (by decide)) (fun _ => ?_)
  refine s4_51 ?_
  refine s4_53 (fun h => absurd h (by decide)) (fun _ => ?_)
  refine s4_56 ?_
  refine s4_58 ?_
  refine s4_60 ?_
  refine s4_61 0 rfl (by decide) rfl ?_
  refine s4_62 ?_
  refine s4_65 ?_
  refine s4_67 (fun _ => ?_) (fun h => absurd h (by decide))
  refine s4_84 ?_
  refine s4_85k 1 rfl rfl ?_
  refine s4_86 ?_
  refine s4_88 (fun h => absurd h (by decide)) (fun _ => ?_)
  refine s4_91 ?_
  refine s4_93 ?_
  refine s4_94 (fun h => absurd h (by decide)) (fun _ => ?_)
  refine s4_97 ?_
  refine s4_98 ?_
  refine s4_99 0 rfl (by decide) rfl ?_
  refine s4_100 ?_
  refine s4_102 ?_
  refine s4_103 0 rfl (by decide) rfl ?_
  refine s4_104 (fun h => absurd h (by decide)) (fun _ => ?_)
  refine s4_107 ?_
  refine s4_109 ?_
  refine s4_110 (fun _ => ?_) (fun h => absurd h (by decide))
  refine s4_123 ?_
  refine s4_125 ?_
  refine s4_126 (fun _ => ?_) (fun h => absurd h (by decide))
  refine s4_139 ?_
  refine s4_141 ?_
  refine s4_142 (fun _ => ?_) (fun h => absurd h (by decide))
  refine s4_155 ?_
  refine s4_156 ?_
  exact s4_160 ⟨rfl, rfl⟩
theorem own_r28 {m : Nat} : M5 ⟨0, 0, 0, 0⟩ [.ref 0, .int 1] [(.inl (0, [.ref 1, .ref 2, .ref 3, .ref 4, .ref 5]) : ACell), (.inr (.int, own_a 1 0) : ACell), (.inr (.int, own_a 1 0) : ACell), (.inr (.int, own_b m 0 1 0 0) : ACell), (.inr (.int, own_b m 0 0 1 0) : ACell), (.inr (.int, own_b m 0 0 0 1) : ACell)] (Is none [(.inl (0, [.ref 1, .ref 2, .ref 3, .ref 4, .ref 5]) : ACell), (.inr (.int, own_a 0 0) : ACell), (.inr (.int, own_a 0 0) : ACell), (.inr (.int, own_b m 0 0 0 0) : ACell), (.inr (.int, own_b m 0 0 1 0) : ACell), (.inr (.int, own_b m 0 0 0 1) : ACell)]) := by
  refine e5 ?_
  refine s5_0 ?_
  refine s5_1 rfl ?_
  refine s5_4 ?_
  refine s5_5 1 rfl (by decide) rfl ?_
  refine s5_6 rfl ?_
  refine s5_7 ?_
  refine s5_8 rfl ?_
  refine s5_11 ?_
  refine s5_12 1 rfl (by decide) rfl ?_
  refine s5_13 (fun h => absurd h (by decide)) (fun _ => ?_)
  refine s5_16 ?_
  refine s5_17 rfl ?_
  refine s5_20 ?_
  refine s5_21 ?_
  refine s5_22 rfl ?_
  refine s5_25 ?_
  refine s5_26 1 rfl (by decide) rfl ?_
  refine s5_27 1 rfl (by decide) rfl ?_
  refine s5_28 ?_
  refine s5_48 ?_
  refine s5_49 rfl ?_
  refine s5_52 ?_
  refine s5_53 1 rfl (by decide) rfl ?_
  refine s5_54 (fun h => absurd h (by decide)) (fun _ => ?_)
  refine s5_57 ?_
  refine s5_58 rfl ?_
  refine s5_61 ?_
  refine s5_62 ?_
  refine s5_63 rfl ?_
  refine s5_66 ?_
  refine s5_67 1 rfl (by decide) rfl ?_
  refine s5_68 1 rfl (by decide) rfl ?_
  refine s5_69 ?_
  refine s5_89 ?_
  refine s5_90 rfl ?_
  refine s5_93 ?_
  refine s5_94 ?_
  refine s5_95 1 rfl (by decide) rfl ?_
  exact s5_96 ⟨rfl, rfl⟩
theorem own_r29 {m : Nat} : M3 ⟨0, 1, 0, 0⟩ [.ref 0, .int 1] [(.inl (0, [.ref 1, .ref 2, .ref 3, .ref 4, .ref 5]) : ACell), (.inr (.int, own_a 0 0) : ACell), (.inr (.int, own_a 0 0) : ACell), (.inr (.int, own_b m 0 0 0 0) : ACell), (.inr (.int, own_b m 0 0 1 0) : ACell), (.inr (.int, own_b m 0 0 0 1) : ACell)] (Is (some (.ref 6)) [(.inl (0, [.ref 1, .ref 2, .ref 3, .ref 4, .ref 5]) : ACell), (.inr (.int, own_a 0 0) : ACell), (.inr (.int, own_a 0 0) : ACell), (.inr (.int, own_b m 0 0 0 0) : ACell), (.inr (.int, own_b m 0 0 1 0) : ACell), (.inr (.int, own_b m 0 0 0 1) : ACell), (.inr (.int, []) : ACell)]) := by
  refine e3 ?_
  refine s3_0 ?_
  refine s3_1 rfl ?_
  refine s3_2 ?_
  refine s3_3 rfl ?_
  refine s3_6 ?_
  refine s3_7 1 rfl (by decide) rfl ?_
  refine s3_8 rfl ?_
  refine s3_9 ?_
  refine s3_10 (fun _ => ?_) (fun h => absurd h (by decide))
  refine s3_26 ?_
  refine s3_27 6 0 (by decide) rfl rfl ?_
  refine s3_29 rfl ?_
  refine s3_30 ?_
  refine s3_31 rfl ?_
  refine s3_33 ?_
  refine s3_34 rfl ?_
  refine s3_37 ?_
  refine s3_38 1 rfl (by decide) rfl ?_
  refine s3_39 rfl ?_
  refine s3_41 ?_
  refine s3_43 (fun _ => ?_) (fun h => absurd h (by decide))
  refine s3_67 ?_
  exact s3_68 ⟨rfl, rfl⟩
theorem own_r30 {m : Nat} : M4 ⟨0, 1, 4, 0⟩ [.ref 6, .int 1, .int 1, .int 1, .int 1, .int 1, .int 1, .int 0] [(.inl (0, [.ref 1, .ref 2, .ref 3, .ref 4, .ref 5]) : ACell), (.inr (.int, own_a 0 0) : ACell), (.inr (.int, own_a 0 0) : ACell), (.inr (.int, own_b m 0 0 0 0) : ACell), (.inr (.int, own_b m 0 0 1 0) : ACell), (.inr (.int, own_b m 0 0 0 1) : ACell), (.inr (.int, []) : ACell)] (Is (some (.int 1)) [(.inl (0, [.ref 1, .ref 2, .ref 3, .ref 4, .ref 5]) : ACell), (.inr (.int, own_a 0 0) : ACell), (.inr (.int, own_a 0 0) : ACell), (.inr (.int, own_b m 0 0 0 0) : ACell), (.inr (.int, own_b m 0 0 1 0) : ACell), (.inr (.int, own_b m 0 0 0 1) : ACell), (.inr (.int, []) : ACell), (.inr (.int, [.int 0, .int 0, .int 0, .int 0]) : ACell)]) := by
  refine e4 ?_
  refine s4_0 ?_
  refine s4_1 7 4 (by decide) rfl rfl ?_
  refine s4_3 rfl ?_
  refine s4_5 ?_
  refine s4_6 rfl ?_
  refine s4_8 ?_
  refine s4_9 ?_
  refine s4_10 (fun h => absurd h (by decide)) (fun _ => ?_)
  refine s4_13 ?_
  refine s4_15 (fun _ => ?_) (fun h => absurd h (by decide))
  refine s4_27 ?_
  refine s4_28 ?_
  refine s4_29 (fun h => absurd h (by decide)) (fun _ => ?_)
  refine s4_32 ?_
  refine s4_34 (fun _ => ?_) (fun h => absurd h (by decide))
  refine s4_46 ?_
  refine s4_47 ?_
  refine s4_48 (fun h => absurd h (by decide)) (fun _ => ?_)
  refine s4_51 ?_
  refine s4_53 (fun _ => ?_) (fun h => absurd h (by decide))
  refine s4_65 ?_
  refine s4_67 (fun _ => ?_) (fun h => absurd h (by decide))
  refine s4_84 ?_
  refine s4_85k 0 rfl rfl ?_
  refine s4_86 ?_
  refine s4_88 (fun h => absurd h (by decide)) (fun _ => ?_)
  refine s4_91 ?_
  refine s4_93 ?_
  refine s4_94 (fun _ => ?_) (fun h => absurd h (by decide))
  refine s4_107 ?_
  refine s4_109 ?_
  refine s4_110 (fun _ => ?_) (fun h => absurd h (by decide))
  refine s4_123 ?_
  refine s4_125 ?_
  refine s4_126 (fun _ => ?_) (fun h => absurd h (by decide))
  refine s4_139 ?_
  refine s4_141 ?_
  refine s4_142 (fun _ => ?_) (fun h => absurd h (by decide))
  refine s4_155 ?_
  refine s4_156 ?_
  exact s4_160 ⟨rfl, rfl⟩
theorem own_r31 {m : Nat} : M2 ⟨0, 0, 0, 0⟩ [.ref 0, .int 1, .int 1] [(.inl (0, [.ref 1, .ref 2, .ref 3, .ref 4, .ref 5]) : ACell), (.inr (.int, own_a 2 0) : ACell), (.inr (.int, own_a 2 0) : ACell), (.inr (.int, own_b m 0 0 1 0) : ACell), (.inr (.int, own_b m 0 0 0 0) : ACell), (.inr (.int, own_b m 0 2 0 1) : ACell)] (Is none [(.inl (0, [.ref 1, .ref 2, .ref 3, .ref 4, .ref 5]) : ACell), (.inr (.int, own_a 2 0) : ACell), (.inr (.int, own_a 1 0) : ACell), (.inr (.int, own_b m 0 1 1 0) : ACell), (.inr (.int, own_b m 0 2 0 0) : ACell), (.inr (.int, own_b m 0 0 1 1) : ACell)]) := by
  refine e2 ?_
  refine s2_0 ?_
  refine s2_1 ?_
  refine s2_2 rfl ?_
  refine s2_5k 16 rfl rfl ?_
  refine s2_6 (fun _ => ?_) (fun h => absurd h (by decide))
  refine s2_45 ?_
  refine s2_46 rfl ?_
  refine s2_49 ?_
  refine s2_50 ?_
  refine s2_51 1 rfl (by decide) rfl ?_
  refine s2_52 ?_
  refine s2_53 rfl ?_
  refine s2_56 ?_
  refine s2_57 ?_
  refine s2_58 rfl ?_
  refine s2_61 ?_
  refine s2_62 1 rfl (by decide) rfl ?_
  refine s2_63 1 rfl (by decide) rfl ?_
  refine s2_64 ?_
  refine s2_65 rfl ?_
  refine s2_68 ?_
  refine s2_69 ?_
  refine s2_70 1 rfl (by decide) rfl ?_
  refine s2_71 ?_
  refine s2_72 rfl ?_
  refine s2_75 ?_
  refine s2_76 1 rfl (by decide) rfl ?_
  refine s2_77 (fun _ => ?_) (fun h => absurd h (by decide))
  refine s2_90 ?_
  refine s2_91 rfl ?_
  refine s2_94 ?_
  refine s2_95 rfl ?_
  refine s2_98 ?_
  refine s2_99 1 rfl (by decide) rfl ?_
  refine s2_100 ?_
  refine s2_101 2 rfl (by decide) rfl ?_
  refine s2_102 ?_
  refine s2_103 rfl ?_
  refine s2_106 ?_
  refine s2_107 ?_
  refine s2_108 1 rfl (by decide) rfl ?_
  exact s2_109 ⟨rfl, rfl⟩
theorem own_r32 {m : Nat} : M3 ⟨0, 1, 2, 0⟩ [.ref 0, .int 1] [(.inl (0, [.ref 1, .ref 2, .ref 3, .ref 4, .ref 5]) : ACell), (.inr (.int, own_a 2 0) : ACell), (.inr (.int, own_a 1 0) : ACell), (.inr (.int, own_b m 0 1 1 0) : ACell), (.inr (.int, own_b m 0 2 0 0) : ACell), (.inr (.int, own_b m 0 0 1 1) : ACell)] (Is (some (.ref 6)) [(.inl (0, [.ref 1, .ref 2, .ref 3, .ref 4, .ref 5]) : ACell), (.inr (.int, own_a 2 0) : ACell), (.inr (.int, own_a 1 0) : ACell), (.inr (.int, own_b m 0 1 1 0) : ACell), (.inr (.int, own_b m 0 2 0 0) : ACell), (.inr (.int, own_b m 0 0 1 1) : ACell), (.inr (.int, [.int 2, .int 1]) : ACell)]) := by
  refine e3 ?_
  refine s3_0 ?_
  refine s3_1 rfl ?_
  refine s3_2 ?_
  refine s3_3 rfl ?_
  refine s3_6 ?_
  refine s3_7 1 rfl (by decide) rfl ?_
  refine s3_8 rfl ?_
  refine s3_9 ?_
  refine s3_10 (fun h => absurd h (by decide)) (fun _ => ?_)
  refine s3_13 ?_
  refine s3_16 ?_
  refine s3_17 rfl ?_
  refine s3_20 ?_
  refine s3_21 2 rfl (by decide) rfl ?_
  refine s3_22 rfl ?_
  refine s3_23 ?_
  refine s3_9 ?_
  refine s3_10 (fun h => absurd h (by decide)) (fun _ => ?_)
  refine s3_13 ?_
  refine s3_16 ?_
  refine s3_17 rfl ?_
  refine s3_20 ?_
  refine s3_21 1 rfl (by decide) rfl ?_
  refine s3_22 rfl ?_
  refine s3_23 ?_
  refine s3_9 ?_
  refine s3_10 (fun _ => ?_) (fun h => absurd h (by decide))
  refine s3_26 ?_
  refine s3_27 6 2 (by decide) rfl rfl ?_
  refine s3_29 rfl ?_
  refine s3_30 ?_
  refine s3_31 rfl ?_
  refine s3_33 ?_
  refine s3_34 rfl ?_
  refine s3_37 ?_
  refine s3_38 1 rfl (by decide) rfl ?_
  refine s3_39 rfl ?_
  refine s3_41 ?_
  refine s3_43 (fun h => absurd h (by decide)) (fun _ => ?_)
  refine s3_46 ?_
  refine s3_47 ?_
  refine s3_49 ?_
  refine s3_51 0 rfl (by decide) rfl ?_
  refine s3_52 ?_
  refine s3_55 ?_
  refine s3_56 rfl ?_
  refine s3_59 ?_
  refine s3_61 2 rfl (by decide) rfl ?_
  refine s3_62 rfl ?_
  refine s3_64 ?_
  refine s3_41 ?_
  refine s3_43 (fun h => absurd h (by decide)) (fun _ => ?_)
  refine s3_46 ?_
  refine s3_47 ?_
  refine s3_49 ?_
  refine s3_51 1 rfl (by decide) rfl ?_
  refine s3_52 ?_
  refine s3_55 ?_
  refine s3_56 rfl ?_
  refine s3_59 ?_
  refine s3_61 1 rfl (by decide) rfl ?_
  refine s3_62 rfl ?_
  refine s3_64 ?_
  refine s3_41 ?_
  refine s3_43 (fun _ => ?_) (fun h => absurd h (by decide))
  refine s3_67 ?_
  exact s3_68 ⟨rfl, rfl⟩
theorem own_r33 {m : Nat} : M4 ⟨0, 1, 4, 0⟩ [.ref 6, .int 1, .int 1, .int 1, .int 1, .int 1, .int 0, .int 1] [(.inl (0, [.ref 1, .ref 2, .ref 3, .ref 4, .ref 5]) : ACell), (.inr (.int, own_a 2 0) : ACell), (.inr (.int, own_a 1 0) : ACell), (.inr (.int, own_b m 0 1 1 0) : ACell), (.inr (.int, own_b m 0 2 0 0) : ACell), (.inr (.int, own_b m 0 0 1 1) : ACell), (.inr (.int, [.int 2, .int 1]) : ACell)] (Is (some (.int 1)) [(.inl (0, [.ref 1, .ref 2, .ref 3, .ref 4, .ref 5]) : ACell), (.inr (.int, own_a 2 0) : ACell), (.inr (.int, own_a 1 0) : ACell), (.inr (.int, own_b m 0 1 1 0) : ACell), (.inr (.int, own_b m 0 2 0 0) : ACell), (.inr (.int, own_b m 0 0 1 1) : ACell), (.inr (.int, [.int 2, .int 1]) : ACell), (.inr (.int, [.int 2, .int 1, .int 0, .int 0]) : ACell)]) := by
  refine e4 ?_
  refine s4_0 ?_
  refine s4_1 7 4 (by decide) rfl rfl ?_
  refine s4_3 rfl ?_
  refine s4_5 ?_
  refine s4_6 rfl ?_
  refine s4_8 ?_
  refine s4_9 ?_
  refine s4_10 (fun h => absurd h (by decide)) (fun _ => ?_)
  refine s4_13 ?_
  refine s4_15 (fun _ => ?_) (fun h => absurd h (by decide))
  refine s4_27 ?_
  refine s4_28 ?_
  refine s4_29 (fun h => absurd h (by decide)) (fun _ => ?_)
  refine s4_32 ?_
  refine s4_34 (fun _ => ?_) (fun h => absurd h (by decide))
  refine s4_46 ?_
  refine s4_47 ?_
  refine s4_48 (fun h => absurd h (by decide)) (fun _ => ?_)
  refine s4_51 ?_
  refine s4_53 (fun h => absurd h (by decide)) (fun _ => ?_)
  refine s4_56 ?_
  refine s4_58 ?_
  refine s4_60 ?_
  refine s4_61 0 rfl (by decide) rfl ?_
  refine s4_62 ?_
  refine s4_65 ?_
  refine s4_67 (fun h => absurd h (by decide)) (fun _ => ?_)
  refine s4_70 ?_
  refine s4_71 ?_
  refine s4_72 (fun h => absurd h (by decide)) (fun _ => ?_)
  refine s4_75 ?_
  refine s4_77 ?_
  refine s4_79 ?_
  refine s4_80 1 rfl (by decide) rfl ?_
  refine s4_81 ?_
  refine s4_84 ?_
  refine s4_85k 2 rfl rfl ?_
  refine s4_86 ?_
  refine s4_88 (fun h => absurd h (by decide)) (fun _ => ?_)
  refine s4_91 ?_
  refine s4_93 ?_
  refine s4_94 (fun h => absurd h (by decide)) (fun _ => ?_)
  refine s4_97 ?_
  refine s4_98 ?_
  refine s4_99 0 rfl (by decide) rfl ?_
  refine s4_100 ?_
  refine s4_102 ?_
  refine s4_103 0 rfl (by decide) rfl ?_
  refine s4_104 (fun h => absurd h (by decide)) (fun _ => ?_)
  refine s4_107 ?_
  refine s4_109 ?_
  refine s4_110 (fun h => absurd h (by decide)) (fun _ => ?_)
  refine s4_113 ?_
  refine s4_114 ?_
  refine s4_115 1 rfl (by decide) rfl ?_
  refine s4_116 ?_
  refine s4_118 ?_
  refine s4_119 1 rfl (by decide) rfl ?_
  refine s4_120 (fun h => absurd h (by decide)) (fun _ => ?_)
  refine s4_123 ?_
  refine s4_125 ?_
  refine s4_126 (fun _ => ?_) (fun h => absurd h (by decide))
  refine s4_139 ?_
  refine s4_141 ?_
  refine s4_142 (fun _ => ?_) (fun h => absurd h (by decide))
  refine s4_155 ?_
  refine s4_156 ?_
  exact s4_160 ⟨rfl, rfl⟩
theorem own_r34 {m : Nat} : M2 ⟨0, 0, 0, 0⟩ [.ref 0, .int 1, .int 1] [(.inl (0, [.ref 1, .ref 2, .ref 3, .ref 4, .ref 5]) : ACell), (.inr (.int, own_a 0 0) : ACell), (.inr (.int, own_a 0 0) : ACell), (.inr (.int, own_b m 0 0 0 0) : ACell), (.inr (.int, own_b m 0 0 1 0) : ACell), (.inr (.int, own_b m 0 0 0 1) : ACell)] (Is none [(.inl (0, [.ref 1, .ref 2, .ref 3, .ref 4, .ref 5]) : ACell), (.inr (.int, own_a 1 0) : ACell), (.inr (.int, own_a 1 0) : ACell), (.inr (.int, own_b m 0 1 0 0) : ACell), (.inr (.int, own_b m 0 0 1 0) : ACell), (.inr (.int, own_b m 0 0 0 1) : ACell)]) := by
  refine e2 ?_
  refine s2_0 ?_
  refine s2_1 ?_
  refine s2_2 rfl ?_
  refine s2_5k 16 rfl rfl ?_
  refine s2_6 (fun _ => ?_) (fun h => absurd h (by decide))
  refine s2_45 ?_
  refine s2_46 rfl ?_
  refine s2_49 ?_
  refine s2_50 ?_
  refine s2_51 1 rfl (by decide) rfl ?_
  refine s2_52 ?_
  refine s2_53 rfl ?_
  refine s2_56 ?_
  refine s2_57 ?_
  refine s2_58 rfl ?_
  refine s2_61 ?_
  refine s2_62 1 rfl (by decide) rfl ?_
  refine s2_63 1 rfl (by decide) rfl ?_
  refine s2_64 ?_
  refine s2_65 rfl ?_
  refine s2_68 ?_
  refine s2_69 ?_
  refine s2_70 1 rfl (by decide) rfl ?_
  refine s2_71 ?_
  refine s2_72 rfl ?_
  refine s2_75 ?_
  refine s2_76 1 rfl (by decide) rfl ?_
  refine s2_77 (fun h => absurd h (by decide)) (fun _ => ?_)
  refine s2_80 ?_
  refine s2_81 rfl ?_
  refine s2_84 ?_
  refine s2_85 ?_
  refine s2_86 1 rfl (by decide) rfl ?_
  refine s2_87 ?_
  refine s2_102 ?_
  refine s2_103 rfl ?_
  refine s2_106 ?_
  refine s2_107 ?_
  refine s2_108 1 rfl (by decide) rfl ?_
  exact s2_109 ⟨rfl, rfl⟩
theorem own_r35 {m : Nat} : M4 ⟨0, 1, 4, 0⟩ [.ref 6, .int 1, .int 1, .int 1, .int 1, .int 1, .int 1, .int 1] [(.inl (0, [.ref 1, .ref 2, .ref 3, .ref 4, .ref 5]) : ACell), (.inr (.int, own_a 1 0) : ACell), (.inr (.int, own_a 1 0) : ACell), (.inr (.int, own_b m 0 1 0 0) : ACell), (.inr (.int, own_b m 0 0 1 0) : ACell), (.inr (.int, own_b m 0 0 0 1) : ACell), (.inr (.int, [.int 1]) : ACell)] (Is (some (.int 1)) [(.inl (0, [.ref 1, .ref 2, .ref 3, .ref 4, .ref 5]) : ACell), (.inr (.int, own_a 1 0) : ACell), (.inr (.int, own_a 1 0) : ACell), (.inr (.int, own_b m 0 1 0 0) : ACell), (.inr (.int, own_b m 0 0 1 0) : ACell), (.inr (.int, own_b m 0 0 0 1) : ACell), (.inr (.int, [.int 1]) : ACell), (.inr (.int, [.int 1, .int 0, .int 0, .int 0]) : ACell)]) := by
  refine e4 ?_
  refine s4_0 ?_
  refine s4_1 7 4 (by decide) rfl rfl ?_
  refine s4_3 rfl ?_
  refine s4_5 ?_
  refine s4_6 rfl ?_
  refine s4_8 ?_
  refine s4_9 ?_
  refine s4_10 (fun h => absurd h (by decide)) (fun _ => ?_)
  refine s4_13 ?_
  refine s4_15 (fun _ => ?_) (fun h => absurd h (by decide))
  refine s4_27 ?_
  refine s4_28 ?_
  refine s4_29 (fun h => absurd h (by decide)) (fun _ => ?_)
  refine s4_32 ?_
  refine s4_34 (fun _ => ?_) (fun h => absurd h (by decide))
  refine s4_46 ?_
  refine s4_47 ?_
  refine s4_48 (fun h => absurd h (by decide)) (fun _ => ?_)
  refine s4_51 ?_
  refine s4_53 (fun _ => ?_) (fun h => absurd h (by decide))
  refine s4_65 ?_
  refine s4_67 (fun h => absurd h (by decide)) (fun _ => ?_)
  refine s4_70 ?_
  refine s4_71 ?_
  refine s4_72 (fun h => absurd h (by decide)) (fun _ => ?_)
  refine s4_75 ?_
  refine s4_77 ?_
  refine s4_79 ?_
  refine s4_80 0 rfl (by decide) rfl ?_
  refine s4_81 ?_
  refine s4_84 ?_
  refine s4_85k 1 rfl rfl ?_
  refine s4_86 ?_
  refine s4_88 (fun h => absurd h (by decide)) (fun _ => ?_)
  refine s4_91 ?_
  refine s4_93 ?_
  refine s4_94 (fun h => absurd h (by decide)) (fun _ => ?_)
  refine s4_97 ?_
  refine s4_98 ?_
  refine s4_99 0 rfl (by decide) rfl ?_
  refine s4_100 ?_
  refine s4_102 ?_
  refine s4_103 0 rfl (by decide) rfl ?_
  refine s4_104 (fun h => absurd h (by decide)) (fun _ => ?_)
  refine s4_107 ?_
  refine s4_109 ?_
  refine s4_110 (fun _ => ?_) (fun h => absurd h (by decide))
  refine s4_123 ?_
  refine s4_125 ?_
  refine s4_126 (fun _ => ?_) (fun h => absurd h (by decide))
  refine s4_139 ?_
  refine s4_141 ?_
  refine s4_142 (fun _ => ?_) (fun h => absurd h (by decide))
  refine s4_155 ?_
  refine s4_156 ?_
  exact s4_160 ⟨rfl, rfl⟩
theorem own_r36 {m : Nat} : M2 ⟨0, 0, 0, 0⟩ [.ref 0, .int 2, .int 2] [(.inl (0, [.ref 1, .ref 2, .ref 3, .ref 4, .ref 5]) : ACell), (.inr (.int, own_a 3 0) : ACell), (.inr (.int, own_a 1 0) : ACell), (.inr (.int, own_b m 0 1 0 1) : ACell), (.inr (.int, own_b m 0 3 0 0) : ACell), (.inr (.int, own_b m 0 0 0 1) : ACell)] (Is none [(.inl (0, [.ref 1, .ref 2, .ref 3, .ref 4, .ref 5]) : ACell), (.inr (.int, own_a 3 2) : ACell), (.inr (.int, own_a 1 2) : ACell), (.inr (.int, own_b m 0 1 2 1) : ACell), (.inr (.int, own_b m 0 3 0 0) : ACell), (.inr (.int, own_b m 0 0 0 1) : ACell)]) := by
  refine e2 ?_
  refine s2_0 ?_
  refine s2_1 ?_
  refine s2_2 rfl ?_
  refine s2_5k 16 rfl rfl ?_
  refine s2_6 (fun _ => ?_) (fun h => absurd h (by decide))
  refine s2_45 ?_
  refine s2_46 rfl ?_
  refine s2_49 ?_
  refine s2_50 ?_
  refine s2_51 2 rfl (by decide) rfl ?_
  refine s2_52 ?_
  refine s2_53 rfl ?_
  refine s2_56 ?_
  refine s2_57 ?_
  refine s2_58 rfl ?_
  refine s2_61 ?_
  refine s2_62 2 rfl (by decide) rfl ?_
  refine s2_63 2 rfl (by decide) rfl ?_
  refine s2_64 ?_
  refine s2_65 rfl ?_
  refine s2_68 ?_
  refine s2_69 ?_
  refine s2_70 2 rfl (by decide) rfl ?_
  refine s2_71 ?_
  refine s2_72 rfl ?_
  refine s2_75 ?_
  refine s2_76 2 rfl (by decide) rfl ?_
  refine s2_77 (fun h => absurd h (by decide)) (fun _ => ?_)
  refine s2_80 ?_
  refine s2_81 rfl ?_
  refine s2_84 ?_
  refine s2_85 ?_
  refine s2_86 2 rfl (by decide) rfl ?_
  refine s2_87 ?_
  refine s2_102 ?_
  refine s2_103 rfl ?_
  refine s2_106 ?_
  refine s2_107 ?_
  refine s2_108 2 rfl (by decide) rfl ?_
  exact s2_109 ⟨rfl, rfl⟩
theorem own_r37 {m : Nat} : M3 ⟨0, 1, 2, 0⟩ [.ref 0, .int 1] [(.inl (0, [.ref 1, .ref 2, .ref 3, .ref 4, .ref 5]) : ACell), (.inr (.int, own_a 3 2) : ACell), (.inr (.int, own_a 1 2) : ACell), (.inr (.int, own_b m 0 1 2 1) : ACell), (.inr (.int, own_b m 0 3 0 0) : ACell), (.inr (.int, own_b m 0 0 0 1) : ACell)] (Is (some (.ref 6)) [(.inl (0, [.ref 1, .ref 2, .ref 3, .ref 4, .ref 5]) : ACell), (.inr (.int, own_a 3 2) : ACell), (.inr (.int, own_a 1 2) : ACell), (.inr (.int, own_b m 0 1 2 1) : ACell), (.inr (.int, own_b m 0 3 0 0) : ACell), (.inr (.int, own_b m 0 0 0 1) : ACell), (.inr (.int, [.int 3, .int 1]) : ACell)]) := by
  refine e3 ?_
  refine s3_0 ?_
  refine s3_1 rfl ?_
  refine s3_2 ?_
  refine s3_3 rfl ?_
  refine s3_6 ?_
  refine s3_7 1 rfl (by decide) rfl ?_
  refine s3_8 rfl ?_
  refine s3_9 ?_
  refine s3_10 (fun h => absurd h (by decide)) (fun _ => ?_)
  refine s3_13 ?_
  refine s3_16 ?_
  refine s3_17 rfl ?_
  refine s3_20 ?_
  refine s3_21 3 rfl (by decide) rfl ?_
  refine s3_22 rfl ?_
  refine s3_23 ?_
  refine s3_9 ?_
  refine s3_10 (fun h => absurd h (by decide)) (fun _ => ?_)
  refine s3_13 ?_
  refine s3_16 ?_
  refine s3_17 rfl ?_
  refine s3_20 ?_
  refine s3_21 1 rfl (by decide) rfl ?_
  refine s3_22 rfl ?_
  refine s3_23 ?_
  refine s3_9 ?_
  refine s3_10 (fun _ => ?_) (fun h => absurd h (by decide))
  refine s3_26 ?_
  refine s3_27 6 2 (by decide) rfl rfl ?_
  refine s3_29 rfl ?_
  refine s3_30 ?_
  refine s3_31 rfl ?_
  refine s3_33 ?_
  refine s3_34 rfl ?_
  refine s3_37 ?_
  refine s3_38 1 rfl (by decide) rfl ?_
  refine s3_39 rfl ?_
  refine s3_41 ?_
  refine s3_43 (fun h => absurd h (by decide)) (fun _ => ?_)
  refine s3_46 ?_
  refine s3_47 ?_
  refine s3_49 ?_
  refine s3_51 0 rfl (by decide) rfl ?_
  refine s3_52 ?_
  refine s3_55 ?_
  refine s3_56 rfl ?_
  refine s3_59 ?_
  refine s3_61 3 rfl (by decide) rfl ?_
  refine s3_62 rfl ?_
  refine s3_64 ?_
  refine s3_41 ?_
  refine s3_43 (fun h => absurd h (by decide)) (fun _ => ?_)
  refine s3_46 ?_
  refine s3_47 ?_
  refine s3_49 ?_
  refine s3_51 1 rfl (by decide) rfl ?_
  refine s3_52 ?_
  refine s3_55 ?_
  refine s3_56 rfl ?_
  refine s3_59 ?_
  refine s3_61 1 rfl (by decide) rfl ?_
  refine s3_62 rfl ?_
  refine s3_64 ?_
  refine s3_41 ?_
  refine s3_43 (fun _ => ?_) (fun h => absurd h (by decide))
  refine s3_67 ?_
  exact s3_68 ⟨rfl, rfl⟩
theorem own_r38 {m : Nat} : M4 ⟨0, 1, 4, 0⟩ [.ref 6, .int 1, .int 1, .int 2, .int 0, .int 0, .int 0, .int 0] [(.inl (0, [.ref 1, .ref 2, .ref 3, .ref 4, .ref 5]) : ACell), (.inr (.int, own_a 3 2) : ACell), (.inr (.int, own_a 1 2) : ACell), (.inr (.int, own_b m 0 1 2 1) : ACell), (.inr (.int, own_b m 0 3 0 0) : ACell), (.inr (.int, own_b m 0 0 0 1) : ACell), (.inr (.int, [.int 3, .int 1]) : ACell)] (Is (some (.int 1)) [(.inl (0, [.ref 1, .ref 2, .ref 3, .ref 4, .ref 5]) : ACell), (.inr (.int, own_a 3 2) : ACell), (.inr (.int, own_a 1 2) : ACell), (.inr (.int, own_b m 0 1 2 1) : ACell), (.inr (.int, own_b m 0 3 0 0) : ACell), (.inr (.int, own_b m 0 0 0 1) : ACell), (.inr (.int, [.int 3, .int 1]) : ACell), (.inr (.int, [.int 3, .int 1, .int 0, .int 0]) : ACell)]) := by
  refine e4 ?_
  refine s4_0 ?_
  refine s4_1 7 4 (by decide) rfl rfl ?_
  refine s4_3 rfl ?_
  refine s4_5 ?_
  refine s4_6 rfl ?_
  refine s4_8 ?_
  refine s4_9 ?_
  refine s4_10 (fun h => absurd h (by decide)) (fun _ => ?_)
  refine s4_13 ?_
  refine s4_15 (fun h => absurd h (by decide)) (fun _ => ?_)
  refine s4_18 ?_
  refine s4_20 ?_
  refine s4_22 ?_
  refine s4_23 0 rfl (by decide) rfl ?_
  refine s4_24 ?_
  refine s4_27 ?_
  refine s4_28 ?_
  refine s4_29 (fun h => absurd h (by decide)) (fun _ => ?_)
  refine s4_32 ?_
  refine s4_34 (fun h => absurd h (by decide)) (fun _ => ?_)
  refine s4_37 ?_
  refine s4_39 ?_
  refine s4_41 ?_
  refine s4_42 1 rfl (by decide) rfl ?_
  refine s4_43 ?_
  refine s4_46 ?_
  refine s4_47 ?_
  refine s4_48 (fun _ => ?_) (fun h => absurd h (by decide))
  refine s4_65 ?_
  refine s4_67 (fun _ => ?_) (fun h => absurd h (by decide))
  refine s4_84 ?_
  refine s4_85k 2 rfl rfl ?_
  refine s4_86 ?_
  refine s4_88 (fun h => absurd h (by decide)) (fun _ => ?_)
  refine s4_91 ?_
  refine s4_93 ?_
  refine s4_94 (fun h => absurd h (by decide)) (fun _ => ?_)
  refine s4_97 ?_
  refine s4_98 ?_
  refine s4_99 0 rfl (by decide) rfl ?_
  refine s4_100 ?_
  refine s4_102 ?_
  refine s4_103 0 rfl (by decide) rfl ?_
  refine s4_104 (fun h => absurd h (by decide)) (fun _ => ?_)
  refine s4_107 ?_
  refine s4_109 ?_
  refine s4_110 (fun h => absurd h (by decide)) (fun _ => ?_)
  refine s4_113 ?_
  refine s4_114 ?_
  refine s4_115 1 rfl (by decide) rfl ?_
  refine s4_116 ?_
  refine s4_118 ?_
  refine s4_119 1 rfl (by decide) rfl ?_
  refine s4_120 (fun h => absurd h (by decide)) (fun _ => ?_)
  refine s4_123 ?_
  refine s4_125 ?_
  refine s4_126 (fun _ => ?_) (fun h => absurd h (by decide))
  refine s4_139 ?_
  refine s4_141 ?_
  refine s4_142 (fun _ => ?_) (fun h => absurd h (by decide))
  refine s4_155 ?_
  refine s4_156 ?_
  exact s4_160 ⟨rfl, rfl⟩
theorem own_r39 {m : Nat} : M3 ⟨0, 1, 1, 0⟩ [.ref 0, .int 2] [(.inl (0, [.ref 1, .ref 2, .ref 3, .ref 4, .ref 5]) : ACell), (.inr (.int, own_a 3 2) : ACell), (.inr (.int, own_a 1 2) : ACell), (.inr (.int, own_b m 0 1 2 1) : ACell), (.inr (.int, own_b m 0 3 0 0) : ACell), (.inr (.int, own_b m 0 0 0 1) : ACell), (.inr (.int, [.int 3, .int 1]) : ACell), (.inr (.int, [.int 3, .int 1, .int 0, .int 0]) : ACell)] (Is (some (.ref 8)) [(.inl (0, [.ref 1, .ref 2, .ref 3, .ref 4, .ref 5]) : ACell), (.inr (.int, own_a 3 2) : ACell), (.inr (.int, own_a 1 2) : ACell), (.inr (.int, own_b m 0 1 2 1) : ACell), (.inr (.int, own_b m 0 3 0 0) : ACell), (.inr (.int, own_b m 0 0 0 1) : ACell), (.inr (.int, [.int 3, .int 1]) : ACell), (.inr (.int, [.int 3, .int 1, .int 0, .int 0]) : ACell), (.inr (.int, [.int 2]) : ACell)]) := by
  refine e3 ?_
  refine s3_0 ?_
  refine s3_1 rfl ?_
  refine s3_2 ?_
  refine s3_3 rfl ?_
  refine s3_6 ?_
  refine s3_7 2 rfl (by decide) rfl ?_
  refine s3_8 rfl ?_
  refine s3_9 ?_
  refine s3_10 (fun h => absurd h (by decide)) (fun _ => ?_)
  refine s3_13 ?_
  refine s3_16 ?_
  refine s3_17 rfl ?_
  refine s3_20 ?_
  refine s3_21 2 rfl (by decide) rfl ?_
  refine s3_22 rfl ?_
  refine s3_23 ?_
  refine s3_9 ?_
  refine s3_10 (fun _ => ?_) (fun h => absurd h (by decide))
  refine s3_26 ?_
  refine s3_27 8 1 (by decide) rfl rfl ?_
  refine s3_29 rfl ?_
  refine s3_30 ?_
  refine s3_31 rfl ?_
  refine s3_33 ?_
  refine s3_34 rfl ?_
  refine s3_37 ?_
  refine s3_38 2 rfl (by decide) rfl ?_
  refine s3_39 rfl ?_
  refine s3_41 ?_
  refine s3_43 (fun h => absurd h (by decide)) (fun _ => ?_)
  refine s3_46 ?_
  refine s3_47 ?_
  refine s3_49 ?_
  refine s3_51 0 rfl (by decide) rfl ?_
  refine s3_52 ?_
  refine s3_55 ?_
  refine s3_56 rfl ?_
  refine s3_59 ?_
  refine s3_61 2 rfl (by decide) rfl ?_
  refine s3_62 rfl ?_
  refine s3_64 ?_
  refine s3_41 ?_
  refine s3_43 (fun _ => ?_) (fun h => absurd h (by decide))
  refine s3_67 ?_
  exact s3_68 ⟨rfl, rfl⟩
theorem own_r40 {m : Nat} : M4 ⟨0, 1, 4, 0⟩ [.ref 8, .int 2, .int 1, .int 2, .int 0, .int 0, .int 0, .int 0] [(.inl (0, [.ref 1, .ref 2, .ref 3, .ref 4, .ref 5]) : ACell), (.inr (.int, own_a 3 2) : ACell), (.inr (.int, own_a 1 2) : ACell), (.inr (.int, own_b m 0 1 2 1) : ACell), (.inr (.int, own_b m 0 3 0 0) : ACell), (.inr (.int, own_b m 0 0 0 1) : ACell), (.inr (.int, [.int 3, .int 1]) : ACell), (.inr (.int, [.int 3, .int 1, .int 0, .int 0]) : ACell), (.inr (.int, [.int 2]) : ACell)] (Is (some (.int 1)) [(.inl (0, [.ref 1, .ref 2, .ref 3, .ref 4, .ref 5]) : ACell), (.inr (.int, own_a 3 2) : ACell), (.inr (.int, own_a 1 2) : ACell), (.inr (.int, own_b m 0 1 2 1) : ACell), (.inr (.int, own_b m 0 3 0 0) : ACell), (.inr (.int, own_b m 0 0 0 1) : ACell), (.inr (.int, [.int 3, .int 1]) : ACell), (.inr (.int, [.int 3, .int 1, .int 0, .int 0]) : ACell), (.inr (.int, [.int 2]) : ACell), (.inr (.int, [.int 2, .int 0, .int 0, .int 0]) : ACell)]) := by
  refine e4 ?_
  refine s4_0 ?_
  refine s4_1 9 4 (by decide) rfl rfl ?_
  refine s4_3 rfl ?_
  refine s4_5 ?_
  refine s4_6 rfl ?_
  refine s4_8 ?_
  refine s4_9 ?_
  refine s4_10 (fun _ => ?_) (fun h => absurd h (by decide))
  refine s4_27 ?_
  refine s4_28 ?_
  refine s4_29 (fun _ => ?_) (fun h => absurd h (by decide))
  refine s4_46 ?_
  refine s4_47 ?_
  refine s4_48 (fun h => absurd h (by decide)) (fun _ => ?_)
  refine s4_51 ?_
  refine s4_53 (fun h => absurd h (by decide)) (fun _ => ?_)
  refine s4_56 ?_
  refine s4_58 ?_
  refine s4_60 ?_
  refine s4_61 0 rfl (by decide) rfl ?_
  refine s4_62 ?_
  refine s4_65 ?_
  refine s4_67 (fun _ => ?_) (fun h => absurd h (by decide))
  refine s4_84 ?_
  refine s4_85k 1 rfl rfl ?_
  refine s4_86 ?_
  refine s4_88 (fun h => absurd h (by decide)) (fun _ => ?_)
  refine s4_91 ?_
  refine s4_93 ?_
  refine s4_94 (fun h => absurd h (by decide)) (fun _ => ?_)
  refine s4_97 ?_
  refine s4_98 ?_
  refine s4_99 0 rfl (by decide) rfl ?_
  refine s4_100 ?_
  refine s4_102 ?_
  refine s4_103 0 rfl (by decide) rfl ?_
  refine s4_104 (fun h => absurd h (by decide)) (fun _ => ?_)
  refine s4_107 ?_
  refine s4_109 ?_
  refine s4_110 (fun _ => ?_) (fun h => absurd h (by decide))
  refine s4_123 ?_
  refine s4_125 ?_
  refine s4_126 (fun _ => ?_) (fun h => absurd h (by decide))
  refine s4_139 ?_
  refine s4_141 ?_
  refine s4_142 (fun _ => ?_) (fun h => absurd h (by decide))
  refine s4_155 ?_
  refine s4_156 ?_
  exact s4_160 ⟨rfl, rfl⟩
theorem own_r41 {m : Nat} : M5 ⟨0, 0, 0, 0⟩ [.ref 0, .int 2] [(.inl (0, [.ref 1, .ref 2, .ref 3, .ref 4, .ref 5]) : ACell), (.inr (.int, own_a 3 2) : ACell), (.inr (.int, own_a 1 2) : ACell), (.inr (.int, own_b m 0 1 2 1) : ACell), (.inr (.int, own_b m 0 3 0 0) : ACell), (.inr (.int, own_b m 0 0 0 1) : ACell)] (Is none [(.inl (0, [.ref 1, .ref 2, .ref 3, .ref 4, .ref 5]) : ACell), (.inr (.int, own_a 3 0) : ACell), (.inr (.int, own_a 1 0) : ACell), (.inr (.int, own_b m 0 1 0 1) : ACell), (.inr (.int, own_b m 0 3 0 0) : ACell), (.inr (.int, own_b m 0 0 0 1) : ACell)]) := by
  refine e5 ?_
  refine s5_0 ?_
  refine s5_1 rfl ?_
  refine s5_4 ?_
  refine s5_5 2 rfl (by decide) rfl ?_
  refine s5_6 rfl ?_
  refine s5_7 ?_
  refine s5_8 rfl ?_
  refine s5_11 ?_
  refine s5_12 2 rfl (by decide) rfl ?_
  refine s5_13 (fun h => absurd h (by decide)) (fun _ => ?_)
  refine s5_16 ?_
  refine s5_17 rfl ?_
  refine s5_20 ?_
  refine s5_21 ?_
  refine s5_22 rfl ?_
  refine s5_25 ?_
  refine s5_26 2 rfl (by decide) rfl ?_
  refine s5_27 2 rfl (by decide) rfl ?_
  refine s5_28 ?_
  refine s5_48 ?_
  refine s5_49 rfl ?_
  refine s5_52 ?_
  refine s5_53 2 rfl (by decide) rfl ?_
  refine s5_54 (fun h => absurd h (by decide)) (fun _ => ?_)
  refine s5_57 ?_
  refine s5_58 rfl ?_
  refine s5_61 ?_
  refine s5_62 ?_
  refine s5_63 rfl ?_
  refine s5_66 ?_
  refine s5_67 2 rfl (by decide) rfl ?_
  refine s5_68 2 rfl (by decide) rfl ?_
  refine s5_69 ?_
  refine s5_89 ?_
  refine s5_90 rfl ?_
  refine s5_93 ?_
  refine s5_94 ?_
  refine s5_95 2 rfl (by decide) rfl ?_
  exact s5_96 ⟨rfl, rfl⟩
theorem own_r42 {m : Nat} : M3 ⟨0, 1, 2, 0⟩ [.ref 0, .int 1] [(.inl (0, [.ref 1, .ref 2, .ref 3, .ref 4, .ref 5]) : ACell), (.inr (.int, own_a 3 0) : ACell), (.inr (.int, own_a 1 0) : ACell), (.inr (.int, own_b m 0 1 0 1) : ACell), (.inr (.int, own_b m 0 3 0 0) : ACell), (.inr (.int, own_b m 0 0 0 1) : ACell)] (Is (some (.ref 6)) [(.inl (0, [.ref 1, .ref 2, .ref 3, .ref 4, .ref 5]) : ACell), (.inr (.int, own_a 3 0) : ACell), (.inr (.int, own_a 1 0) : ACell), (.inr (.int, own_b m 0 1 0 1) : ACell), (.inr (.int, own_b m 0 3 0 0) : ACell), (.inr (.int, own_b m 0 0 0 1) : ACell), (.inr (.int, [.int 3, .int 1]) : ACell)]) := by
  refine e3 ?_
  refine s3_0 ?_
  refine s3_1 rfl ?_
  refine s3_2 ?_
  refine s3_3 rfl ?_
  refine s3_6 ?_
  refine s3_7 1 rfl (by decide) rfl ?_
  refine s3_8 rfl ?_
  refine s3_9 ?_
  refine s3_10 (fun h => absurd h (by decide)) (fun _ => ?_)
  refine s3_13 ?_
  refine s3_16 ?_
  refine s3_17 rfl ?_
  refine s3_20 ?_
  refine s3_21 3 rfl (by decide) rfl ?_
  refine s3_22 rfl ?_
  refine s3_23 ?_
  refine s3_9 ?_
  refine s3_10 (fun h => absurd h (by decide)) (fun _ => ?_)
  refine s3_13 ?_
  refine s3_16 ?_
  refine s3_17 rfl ?_
  refine s3_20 ?_
  refine s3_21 1 rfl (by decide) rfl ?_
  refine s3_22 rfl ?_
  refine s3_23 ?_
  refine s3_9 ?_
  refine s3_10 (fun _ => ?_) (fun h => absurd h (by decide))
  refine s3_26 ?_
  refine s3_27 6 2 (by decide) rfl rfl ?_
  refine s3_29 rfl ?_
  refine s3_30 ?_
  refine s3_31 rfl ?_
  refine s3_33 ?_
  refine s3_34 rfl ?_
  refine s3_37 ?_
  refine s3_38 1 rfl (by decide) rfl ?_
  refine s3_39 rfl ?_
  refine s3_41 ?_
  refine s3_43 (fun h => absurd h (by decide)) (fun _ => ?_)
  refine s3_46 ?_
  refine s3_47 ?_
  refine s3_49 ?_
  refine s3_51 0 rfl (by decide) rfl ?_
  refine s3_52 ?_
  refine s3_55 ?_
  refine s3_56 rfl ?_
  refine s3_59 ?_
  refine s3_61 3 rfl (by decide) rfl ?_
  refine s3_62 rfl ?_
  refine s3_64 ?_
  refine s3_41 ?_
  refine s3_43 (fun h => absurd h (by decide)) (fun _ => ?_)
  refine s3_46 ?_
  refine s3_47 ?_
  refine s3_49 ?_
  refine s3_51 1 rfl (by decide) rfl ?_
  refine s3_52 ?_
  refine s3_55 ?_
  refine s3_56 rfl ?_
  refine s3_59 ?_
  refine s3_61 1 rfl (by decide) rfl ?_
  refine s3_62 rfl ?_
  refine s3_64 ?_
  refine s3_41 ?_
  refine s3_43 (fun _ => ?_) (fun h => absurd h (by decide))
  refine s3_67 ?_
  exact s3_68 ⟨rfl, rfl⟩
theorem own_r43 {m : Nat} : M4 ⟨0, 1, 4, 0⟩ [.ref 6, .int 1, .int 1, .int 2, .int 0, .int 0, .int 1, .int 0] [(.inl (0, [.ref 1, .ref 2, .ref 3, .ref 4, .ref 5]) : ACell), (.inr (.int, own_a 3 0) : ACell), (.inr (.int, own_a 1 0) : ACell), (.inr (.int, own_b m 0 1 0 1) : ACell), (.inr (.int, own_b m 0 3 0 0) : ACell), (.inr (.int, own_b m 0 0 0 1) : ACell), (.inr (.int, [.int 3, .int 1]) : ACell)] (Is (some (.int 1)) [(.inl (0, [.ref 1, .ref 2, .ref 3, .ref 4, .ref 5]) : ACell), (.inr (.int, own_a 3 0) : ACell), (.inr (.int, own_a 1 0) : ACell), (.inr (.int, own_b m 0 1 0 1) : ACell), (.inr (.int, own_b m 0 3 0 0) : ACell), (.inr (.int, own_b m 0 0 0 1) : ACell), (.inr (.int, [.int 3, .int 1]) : ACell), (.inr (.int, [.int 3, .int 1, .int 0, .int 0]) : ACell)]) := by
  refine e4 ?_
  refine s4_0 ?_
  refine s4_1 7 4 (by decide) rfl rfl ?_
  refine s4_3 rfl ?_
  refine s4_5 ?_
  refine s4_6 rfl ?_
  refine s4_8 ?_
  refine s4_9 ?_
  refine s4_10 (fun h => absurd h (by decide)) (fun _ => ?_)
  refine s4_13 ?_
  refine s4_15 (fun h => absurd h (by decide)) (fun _ => ?_)
  refine s4_18 ?_
  refine s4_20 ?_
  refine s4_22 ?_
  refine s4_23 0 rfl (by decide) rfl ?_
  refine s4_24 ?_
  refine s4_27 ?_
  refine s4_28 ?_
  refine s4_29 (fun h => absurd h (by decide)) (fun _ => ?_)
  refine s4_32 ?_
  refine s4_34 (fun h => absurd h (by decide)) (fun _ => ?_)
  refine s4_37 ?_
  refine s4_39 ?_
  refine s4_41 ?_
  refine s4_42 1 rfl (by decide) rfl ?_
  refine s4_43 ?_
  refine s4_46 ?_
  refine s4_47 ?_
  refine s4_48 (fun _ => ?_) (fun h => absurd h (by decide))
  refine s4_65 ?_
  refine s4_67 (fun _ => ?_) (fun h => absurd h (by decide))
  refine s4_84 ?_
  refine s4_85k 2 rfl rfl ?_
  refine s4_86 ?_
  refine s4_88 (fun h => absurd h (by decide)) (fun _ => ?_)
  refine s4_91 ?_
  refine s4_93 ?_
  refine s4_94 (fun h => absurd h (by decide)) (fun _ => ?_)
  refine s4_97 ?_
  refine s4_98 ?_
  refine s4_99 0 rfl (by decide) rfl ?_
  refine s4_100 ?_
  refine s4_102 ?_
  refine s4_103 0 rfl (by decide) rfl ?_
  refine s4_104 (fun h => absurd h (by decide)) (fun _ => ?_)
  refine s4_107 ?_
  refine s4_109 ?_
  refine s4_110 (fun h => absurd h (by decide)) (fun _ => ?_)
  refine s4_113 ?_
  refine s4_114 ?_
  refine s4_115 1 rfl (by decide) rfl ?_
  refine s4_116 ?_
  refine s4_118 ?_
  refine s4_119 1 rfl (by decide) rfl ?_
  refine s4_120 (fun h => absurd h (by decide)) (fun _ => ?_)
  refine s4_123 ?_
  refine s4_125 ?_
  refine s4_126 (fun _ => ?_) (fun h => absurd h (by decide))
  refine s4_139 ?_
  refine s4_141 ?_
  refine s4_142 (fun _ => ?_) (fun h => absurd h (by decide))
  refine s4_155 ?_
  refine s4_156 ?_
  exact s4_160 ⟨rfl, rfl⟩
theorem own_r44 {m : Nat} : M3 ⟨0, 1, 0, 0⟩ [.ref 0, .int 2] [(.inl (0, [.ref 1, .ref 2, .ref 3, .ref 4, .ref 5]) : ACell), (.inr (.int, own_a 3 0) : ACell), (.inr (.int, own_a 1 0) : ACell), (.inr (.int, own_b m 0 1 0 1) : ACell), (.inr (.int, own_b m 0 3 0 0) : ACell), (.inr (.int, own_b m 0 0 0 1) : ACell), (.inr (.int, [.int 3, .int 1]) : ACell), (.inr (.int, [.int 3, .int 1, .int 0, .int 0]) : ACell)] (Is (some (.ref 8)) [(.inl (0, [.ref 1, .ref 2, .ref 3, .ref 4, .ref 5]) : ACell), (.inr (.int, own_a 3 0) : ACell), (.inr (.int, own_a 1 0) : ACell), (.inr (.int, own_b m 0 1 0 1) : ACell), (.inr (.int, own_b m 0 3 0 0) : ACell), (.inr (.int, own_b m 0 0 0 1) : ACell), (.inr (.int, [.int 3, .int 1]) : ACell), (.inr (.int, [.int 3, .int 1, .int 0, .int 0]) : ACell), (.inr (.int, []) : ACell)]) := by
  refine e3 ?_
  refine s3_0 ?_
  refine s3_1 rfl ?_
  refine s3_2 ?_
  refine s3_3 rfl ?_
  refine s3_6 ?_
  refine s3_7 2 rfl (by decide) rfl ?_
  refine s3_8 rfl ?_
  refine s3_9 ?_
  refine s3_10 (fun _ => ?_) (fun h => absurd h (by decide))
  refine s3_26 ?_
  refine s3_27 8 0 (by decide) rfl rfl ?_
  refine s3_29 rfl ?_
  refine s3_30 ?_
  refine s3_31 rfl ?_
  refine s3_33 ?_
  refine s3_34 rfl ?_
  refine s3_37 ?_
  refine s3_38 2 rfl (by decide) rfl ?_
  refine s3_39 rfl ?_
  refine s3_41 ?_
  refine s3_43 (fun _ => ?_) (fun h => absurd h (by decide))
  refine s3_67 ?_
  exact s3_68 ⟨rfl, rfl⟩
theorem own_r45 {m : Nat} : M4 ⟨0, 1, 4, 0⟩ [.ref 8, .int 2, .int 1, .int 2, .int 0, .int 0, .int 1, .int 0] [(.inl (0, [.ref 1, .ref 2, .ref 3, .ref 4, .ref 5]) : ACell), (.inr (.int, own_a 3 0) : ACell), (.inr (.int, own_a 1 0) : ACell), (.inr (.int, own_b m 0 1 0 1) : ACell), (.inr (.int, own_b m 0 3 0 0) : ACell), (.inr (.int, own_b m 0 0 0 1) : ACell), (.inr (.int, [.int 3, .int 1]) : ACell), (.inr (.int, [.int 3, .int 1, .int 0, .int 0]) : ACell), (.inr (.int, []) : ACell)] (Is (some (.int 1)) [(.inl (0, [.ref 1, .ref 2, .ref 3, .ref 4, .ref 5]) : ACell), (.inr (.int, own_a 3 0) : ACell), (.inr (.int, own_a 1 0) : ACell), (.inr (.int, own_b m 0 1 0 1) : ACell), (.inr (.int, own_b m 0 3 0 0) : ACell), (.inr (.int, own_b m 0 0 0 1) : ACell), (.inr (.int, [.int 3, .int 1]) : ACell), (.inr (.int, [.int 3, .int 1, .int 0, .int 0]) : ACell), (.inr (.int, []) : ACell), (.inr (.int, [.int 0, .int 0, .int 0, .int 0]) : ACell)]) := by
  refine e4 ?_
  refine s4_0 ?_
  refine s4_1 9 4 (by decide) rfl rfl ?_
  refine s4_3 rfl ?_
  refine s4_5 ?_
  refine s4_6 rfl ?_
  refine s4_8 ?_
  refine s4_9 ?_
  refine s4_10 (fun _ => ?_) (fun h => absurd h (by decide))
  refine s4_27 ?_
  refine s4_28 ?_
  refine s4_29 (fun _ => ?_) (fun h => absurd h (by decide))
  refine s4_46 ?_
  refine s4_47 ?_
  refine s4_48 (fun h => absurd h (by decide)) (fun _ => ?_)
  refine s4_51 ?_
  refine s4_53 (fun _ => ?_) (fun h => absurd h (by decide))
  refine s4_65 ?_
  refine s4_67 (fun _ => ?_) (fun h => absurd h (by decide))
  refine s4_84 ?_
  refine s4_85k 0 rfl rfl ?_
  refine s4_86 ?_
  refine s4_88 (fun h => absurd h (by decide)) (fun _ => ?_)
  refine s4_91 ?_
  refine s4_93 ?_
  refine s4_94 (fun _ => ?_) (fun h => absurd h (by decide))
  refine s4_107 ?_
  refine s4_109 ?_
  refine s4_110 (fun _ => ?_) (fun h => absurd h (by decide))
  refine s4_123 ?_
  refine s4_125 ?_
  refine s4_126 (fun _ => ?_) (fun h => absurd h (by decide))
  refine s4_139 ?_
  refine s4_141 ?_
  refine s4_142 (fun _ => ?_) (fun h => absurd h (by decide))
  refine s4_155 ?_
  refine s4_156 ?_
  exact s4_160 ⟨rfl, rfl⟩
theorem own_r46 {m : Nat} : M5 ⟨0, 0, 0, 0⟩ [.ref 0, .int 1] [(.inl (0, [.ref 1, .ref 2, .ref 3, .ref 4, .ref 5]) : ACell), (.inr (.int, own_a 3 2) : ACell), (.inr (.int, own_a 1 2) : ACell), (.inr (.int, own_b m 0 1 2 1) : ACell), (.inr (.int, own_b m 0 3 0 0) : ACell), (.inr (.int, own_b m 0 0 0 1) : ACell)] (Is none [(.inl (0, [.ref 1, .ref 2, .ref 3, .ref 4, .ref 5]) : ACell), (.inr (.int, own_a 3 2) : ACell), (.inr (.int, own_a 3 2) : ACell), (.inr (.int, own_b m 0 0 2 1) : ACell), (.inr (.int, own_b m 0 3 0 0) : ACell), (.inr (.int, own_b m 0 0 0 0) : ACell)]) := by
  refine e5 ?_
  refine s5_0 ?_
  refine s5_1 rfl ?_
  refine s5_4 ?_
  refine s5_5 1 rfl (by decide) rfl ?_
  refine s5_6 rfl ?_
  refine s5_7 ?_
  refine s5_8 rfl ?_
  refine s5_11 ?_
  refine s5_12 1 rfl (by decide) rfl ?_
  refine s5_13 (fun _ => ?_) (fun h => absurd h (by decide))
  refine s5_31 ?_
  refine s5_32 rfl ?_
  refine s5_35 ?_
  refine s5_36 rfl ?_
  refine s5_39 ?_
  refine s5_40 1 rfl (by decide) rfl ?_
  refine s5_41 ?_
  refine s5_42 rfl ?_
  refine s5_45 ?_
  refine s5_46 1 rfl (by decide) rfl ?_
  refine s5_47 3 rfl (by decide) rfl ?_
  refine s5_48 ?_
  refine s5_49 rfl ?_
  refine s5_52 ?_
  refine s5_53 1 rfl (by decide) rfl ?_
  refine s5_54 (fun h => absurd h (by decide)) (fun _ => ?_)
  refine s5_57 ?_
  refine s5_58 rfl ?_
  refine s5_61 ?_
  refine s5_62 ?_
  refine s5_63 rfl ?_
  refine s5_66 ?_
  refine s5_67 1 rfl (by decide) rfl ?_
  refine s5_68 1 rfl (by decide) rfl ?_
  refine s5_69 ?_
  refine s5_89 ?_
  refine s5_90 rfl ?_
  refine s5_93 ?_
  refine s5_94 ?_
  refine s5_95 1 rfl (by decide) rfl ?_
  exact s5_96 ⟨rfl, rfl⟩
theorem own_r47 {m : Nat} : M3 ⟨0, 1, 1, 0⟩ [.ref 0, .int 1] [(.inl (0, [.ref 1, .ref 2, .ref 3, .ref 4, .ref 5]) : ACell), (.inr (.int, own_a 3 2) : ACell), (.inr (.int, own_a 3 2) : ACell), (.inr (.int, own_b m 0 0 2 1) : ACell), (.inr (.int, own_b m 0 3 0 0) : ACell), (.inr (.int, own_b m 0 0 0 0) : ACell)] (Is (some (.ref 6)) [(.inl (0, [.ref 1, .ref 2, .ref 3, .ref 4, .ref 5]) : ACell), (.inr (.int, own_a 3 2) : ACell), (.inr (.int, own_a 3 2) : ACell), (.inr (.int, own_b m 0 0 2 1) : ACell), (.inr (.int, own_b m 0 3 0 0) : ACell), (.inr (.int, own_b m 0 0 0 0) : ACell), (.inr (.int, [.int 3]) : ACell)]) := by
  refine e3 ?_
  refine s3_0 ?_
  refine s3_1 rfl ?_
  refine s3_2 ?_
  refine s3_3 rfl ?_
  refine s3_6 ?_
  refine s3_7 1 rfl (by decide) rfl ?_
  refine s3_8 rfl ?_
  refine s3_9 ?_
  refine s3_10 (fun h => absurd h (by decide)) (fun _ => ?_)
  refine s3_13 ?_
  refine s3_16 ?_
  refine s3_17 rfl ?_
  refine s3_20 ?_
  refine s3_21 3 rfl (by decide) rfl ?_
  refine s3_22 rfl ?_
  refine s3_23 ?_
  refine s3_9 ?_
  refine s3_10 (fun _ => ?_) (fun h => absurd h (by decide))
  refine s3_26 ?_
  refine s3_27 6 1 (by decide) rfl rfl ?_
  refine s3_29 rfl ?_
  refine s3_30 ?_
  refine s3_31 rfl ?_
  refine s3_33 ?_
  refine s3_34 rfl ?_
  refine s3_37 ?_
  refine s3_38 1 rfl (by decide) rfl ?_
  refine s3_39 rfl ?_
  refine s3_41 ?_
  refine s3_43 (fun h => absurd h (by decide)) (fun _ => ?_)
  refine s3_46 ?_
  refine s3_47 ?_
  refine s3_49 ?_
  refine s3_51 0 rfl (by decide) rfl ?_
  refine s3_52 ?_
  refine s3_55 ?_
  refine s3_56 rfl ?_
  refine s3_59 ?_
  refine s3_61 3 rfl (by decide) rfl ?_
  refine s3_62 rfl ?_
  refine s3_64 ?_
  refine s3_41 ?_
  refine s3_43 (fun _ => ?_) (fun h => absurd h (by decide))
  refine s3_67 ?_
  exact s3_68 ⟨rfl, rfl⟩
theorem own_r48 {m : Nat} : M4 ⟨0, 1, 4, 0⟩ [.ref 6, .int 1, .int 1, .int 2, .int 0, .int 1, .int 0, .int 0] [(.inl (0, [.ref 1, .ref 2, .ref 3, .ref 4, .ref 5]) : ACell), (.inr (.int, own_a 3 2) : ACell), (.inr (.int, own_a 3 2) : ACell), (.inr (.int, own_b m 0 0 2 1) : ACell), (.inr (.int, own_b m 0 3 0 0) : ACell), (.inr (.int, own_b m 0 0 0 0) : ACell), (.inr (.int, [.int 3]) : ACell)] (Is (some (.int 1)) [(.inl (0, [.ref 1, .ref 2, .ref 3, .ref 4, .ref 5]) : ACell), (.inr (.int, own_a 3 2) : ACell), (.inr (.int, own_a 3 2) : ACell), (.inr (.int, own_b m 0 0 2 1) : ACell), (.inr (.int, own_b m 0 3 0 0) : ACell), (.inr (.int, own_b m 0 0 0 0) : ACell), (.inr (.int, [.int 3]) : ACell), (.inr (.int, [.int 3, .int 0, .int 0, .int 0]) : ACell)]) := by
  refine e4 ?_
  refine s4_0 ?_
  refine s4_1 7 4 (by decide) rfl rfl ?_
  refine s4_3 rfl ?_
  refine s4_5 ?_
  refine s4_6 rfl ?_
  refine s4_8 ?_
  refine s4_9 ?_
  refine s4_10 (fun h => absurd h (by decide)) (fun _ => ?_)
  refine s4_13 ?_
  refine s4_15 (fun h => absurd h (by decide)) (fun _ => ?_)
  refine s4_18 ?_
  refine s4_20 ?_
  refine s4_22 ?_
  refine s4_23 0 rfl (by decide) rfl ?_
  refine s4_24 ?_
  refine s4_27 ?_
  refine s4_28 ?_
  refine s4_29 (fun h => absurd h (by decide)) (fun _ => ?_)
  refine s4_32 ?_
  refine s4_34 (fun _ => ?_) (fun h => absurd h (by decide))
  refine s4_46 ?_
  refine s4_47 ?_
  refine s4_48 (fun _ => ?_) (fun h => absurd h (by decide))
  refine s4_65 ?_
  refine s4_67 (fun _ => ?_) (fun h => absurd h (by decide))
  refine s4_84 ?_
  refine s4_85k 1 rfl rfl ?_
  refine s4_86 ?_
  refine s4_88 (fun h => absurd h (by decide)) (fun _ => ?_)
  refine s4_91 ?_
  refine s4_93 ?_
  refine s4_94 (fun h => absurd h (by decide)) (fun _ => ?_)
  refine s4_97 ?_
  refine s4_98 ?_
  refine s4_99 0 rfl (by decide) rfl ?_
  refine s4_100 ?_
  refine s4_102 ?_
  refine s4_103 0 rfl (by decide) rfl ?_
  refine s4_104 (fun h => absurd h (by decide)) (fun _ => ?_)
  refine s4_107 ?_
  refine s4_109 ?_
  refine s4_110 (fun _ => ?_) (fun h => absurd h (by decide))
  refine s4_123 ?_
  refine s4_125 ?_
  refine s4_126 (fun _ => ?_) (fun h => absurd h (by decide))
  refine s4_139 ?_
  refine s4_141 ?_
  refine s4_142 (fun _ => ?_) (fun h => absurd h (by decide))
  refine s4_155 ?_
  refine s4_156 ?_
  exact s4_160 ⟨rfl, rfl⟩
theorem own_r49 {m : Nat} : M3 ⟨0, 1, 1, 0⟩ [.ref 0, .int 2] [(.inl (0, [.ref 1, .ref 2, .ref 3, .ref 4, .ref 5]) : ACell), (.inr (.int, own_a 3 2) : ACell), (.inr (.int, own_a 3 2) : ACell), (.inr (.int, own_b m 0 0 2 1) : ACell), (.inr (.int, own_b m 0 3 0 0) : ACell), (.inr (.int, own_b m 0 0 0 0) : ACell), (.inr (.int, [.int 3]) : ACell), (.inr (.int, [.int 3, .int 0, .int 0, .int 0]) : ACell)] (Is (some (.ref 8)) [(.inl (0, [.ref 1, .ref 2, .ref 3, .ref 4, .ref 5]) : ACell), (.inr (.int, own_a 3 2) : ACell), (.inr (.int, own_a 3 2) : ACell), (.inr (.int, own_b m 0 0 2 1) : ACell), (.inr (.int, own_b m 0 3 0 0) : ACell), (.inr (.int, own_b m 0 0 0 0) : ACell), (.inr (.int, [.int 3]) : ACell), (.inr (.int, [.int 3, .int 0, .int 0, .int 0]) : ACell), (.inr (.int, [.int 2]) : ACell)]) := by
  refine e3 ?_
  refine s3_0 ?_
  refine s3_1 rfl ?_
  refine s3_2 ?_
  refine s3_3 rfl ?_
  refine s3_6 ?_
  refine s3_7 2 rfl (by decide) rfl ?_
  refine s3_8 rfl ?_
  refine s3_9 ?_
  refine s3_10 (fun h => absurd h (by decide)) (fun _ => ?_)
  refine s3_13 ?_
  refine s3_16 ?_
  refine s3_17 rfl ?_
  refine s3_20 ?_
  refine s3_21 2 rfl (by decide) rfl ?_
  refine s3_22 rfl ?_
  refine s3_23 ?_
  refine s3_9 ?_
  refine s3_10 (fun _ => ?_) (fun h => absurd h (by decide))
  refine s3_26 ?_
  refine s3_27 8 1 (by decide) rfl rfl ?_
  refine s3_29 rfl ?_
  refine s3_30 ?_
  refine s3_31 rfl ?_
  refine s3_33 ?_
  refine s3_34 rfl ?_
  refine s3_37 ?_
  refine s3_38 2 rfl (by decide) rfl ?_
  refine s3_39 rfl ?_
  refine s3_41 ?_
  refine s3_43 (fun h => absurd h (by decide)) (fun _ => ?_)
  refine s3_46 ?_
  refine s3_47 ?_
  refine s3_49 ?_
  refine s3_51 0 rfl (by decide) rfl ?_
  refine s3_52 ?_
  refine s3_55 ?_
  refine s3_56 rfl ?_
  refine s3_59 ?_
  refine s3_61 2 rfl (by decide) rfl ?_
  refine s3_62 rfl ?_
  refine s3_64 ?_
  refine s3_41 ?_
  refine s3_43 (fun _ => ?_) (fun h => absurd h (by decide))
  refine s3_67 ?_
  exact s3_68 ⟨rfl, rfl⟩
theorem own_r50 {m : Nat} : M4 ⟨0, 1, 4, 0⟩ [.ref 8, .int 2, .int 1, .int 2, .int 0, .int 1, .int 0, .int 0] [(.inl (0, [.ref 1, .ref 2, .ref 3, .ref 4, .ref 5]) : ACell), (.inr (.int, own_a 3 2) : ACell), (.inr (.int, own_a 3 2) : ACell), (.inr (.int, own_b m 0 0 2 1) : ACell), (.inr (.int, own_b m 0 3 0 0) : ACell), (.inr (.int, own_b m 0 0 0 0) : ACell), (.inr (.int, [.int 3]) : ACell), (.inr (.int, [.int 3, .int 0, .int 0, .int 0]) : ACell), (.inr (.int, [.int 2]) : ACell)] (Is (some (.int 1)) [(.inl (0, [.ref 1, .ref 2, .ref 3, .ref 4, .ref 5]) : ACell), (.inr (.int, own_a 3 2) : ACell), (.inr (.int, own_a 3 2) : ACell), (.inr (.int, own_b m 0 0 2 1) : ACell), (.inr (.int, own_b m 0 3 0 0) : ACell), (.inr (.int, own_b m 0 0 0 0) : ACell), (.inr (.int, [.int 3]) : ACell), (.inr (.int, [.int 3, .int 0, .int 0, .int 0]) : ACell), (.inr (.int, [.int 2]) : ACell), (.inr (.int, [.int 2, .int 0, .int 0, .int 0]) : ACell)]) := by
  refine e4 ?_
  refine s4_0 ?_
  refine s4_1 9 4 (by decide) rfl rfl ?_
  refine s4_3 rfl ?_
  refine s4_5 ?_
  refine s4_6 rfl ?_
  refine s4_8 ?_
  refine s4_9 ?_
  refine s4_10 (fun _ => ?_) (fun h => absurd h (by decide))
  refine s4_27 ?_
  refine s4_28 ?_
  refine s4_29 (fun _ => ?_) (fun h => absurd h (by decide))
  refine s4_46 ?_
  refine s4_47 ?_
  refine s4_48 (fun h => absurd h (by decide)) (fun _ => ?_)
  refine s4_51 ?_
  refine s4_53 (fun h => absurd h (by decide)) (fun _ => ?_)
  refine s4_56 ?_
  refine s4_58 ?_
  refine s4_60 ?_
  refine s4_61 0 rfl (by decide) rfl ?_
  refine s4_62 ?_
  refine s4_65 ?_
  refine s4_67 (fun _ => ?_) (fun h => absurd h (by decide))
  refine s4_84 ?_
  refine s4_85k 1 rfl rfl ?_
  refine s4_86 ?_
  refine s4_88 (fun h => absurd h (by decide)) (fun _ => ?_)
  refine s4_91 ?_
  refine s4_93 ?_
  refine s4_94 (fun h => absurd h (by decide)) (fun _ => ?_)
  refine s4_97 ?_
  refine s4_98 ?_
  refine s4_99 0 rfl (by decide) rfl ?_
  refine s4_100 ?_
  refine s4_102 ?_
  refine s4_103 0 rfl (by decide) rfl ?_
  refine s4_104 (fun h => absurd h (by decide)) (fun _ => ?_)
  refine s4_107 ?_
  refine s4_109 ?_
  refine s4_110 (fun _ => ?_) (fun h => absurd h (by decide))
  refine s4_123 ?_
  refine s4_125 ?_
  refine s4_126 (fun _ => ?_) (fun h => absurd h (by decide))
  refine s4_139 ?_
  refine s4_141 ?_
  refine s4_142 (fun _ => ?_) (fun h => absurd h (by decide))
  refine s4_155 ?_
  refine s4_156 ?_
  exact s4_160 ⟨rfl, rfl⟩
theorem own_r51 {m : Nat} : M5 ⟨0, 0, 0, 0⟩ [.ref 0, .int 1] [(.inl (0, [.ref 1, .ref 2, .ref 3, .ref 4, .ref 5]) : ACell), (.inr (.int, own_a 3 0) : ACell), (.inr (.int, own_a 1 0) : ACell), (.inr (.int, own_b m 0 1 0 1) : ACell), (.inr (.int, own_b m 0 3 0 0) : ACell), (.inr (.int, own_b m 0 0 0 1) : ACell)] (Is none [(.inl (0, [.ref 1, .ref 2, .ref 3, .ref 4, .ref 5]) : ACell), (.inr (.int, own_a 3 0) : ACell), (.inr (.int, own_a 3 0) : ACell), (.inr (.int, own_b m 0 0 0 1) : ACell), (.inr (.int, own_b m 0 3 0 0) : ACell), (.inr (.int, own_b m 0 0 0 0) : ACell)]) := by
  refine e5 ?_
  refine s5_0 ?_
  refine s5_1 rfl ?_
  refine s5_4 ?_
  refine s5_5 1 rfl (by decide) rfl ?_
  refine s5_6 rfl ?_
  refine s5_7 ?_
  refine s5_8 rfl ?_
  refine s5_11 ?_
  refine s5_12 1 rfl (by decide) rfl ?_
  refine s5_13 (fun _ => ?_) (fun h => absurd h (by decide))
  refine s5_31 ?_
  refine s5_32 rfl ?_
  refine s5_35 ?_
  refine s5_36 rfl ?_
  refine s5_39 ?_
  refine s5_40 1 rfl (by decide) rfl ?_
  refine s5_41 ?_
  refine s5_42 rfl ?_
  refine s5_45 ?_
  refine s5_46 1 rfl (by decide) rfl ?_
  refine s5_47 3 rfl (by decide) rfl ?_
  refine s5_48 ?_
  refine s5_49 rfl ?_
  refine s5_52 ?_
  refine s5_53 1 rfl (by decide) rfl ?_
  refine s5_54 (fun h => absurd h (by decide)) (fun _ => ?_)
  refine s5_57 ?_
  refine s5_58 rfl ?_
  refine s5_61 ?_
  refine s5_62 ?_
  refine s5_63 rfl ?_
  refine s5_66 ?_
  refine s5_67 1 rfl (by decide) rfl ?_
  refine s5_68 1 rfl (by decide) rfl ?_
  refine s5_69 ?_
  refine s5_89 ?_
  refine s5_90 rfl ?_
  refine s5_93 ?_
  refine s5_94 ?_
  refine s5_95 1 rfl (by decide) rfl ?_
  exact s5_96 ⟨rfl, rfl⟩
theorem own_r52 {m : Nat} : M3 ⟨0, 1, 1, 0⟩ [.ref 0, .int 1] [(.inl (0, [.ref 1, .ref 2, .ref 3, .ref 4, .ref 5]) : ACell), (.inr (.int, own_a 3 0) : ACell), (.inr (.int, own_a 3 0) : ACell), (.inr (.int, own_b m 0 0 0 1) : ACell), (.inr (.int, own_b m 0 3 0 0) : ACell), (.inr (.int, own_b m 0 0 0 0) : ACell)] (Is (some (.ref 6)) [(.inl (0, [.ref 1, .ref 2, .ref 3, .ref 4, .ref 5]) : ACell), (.inr (.int, own_a 3 0) : ACell), (.inr (.int, own_a 3 0) : ACell), (.inr (.int, own_b m 0 0 0 1) : ACell), (.inr (.int, own_b m 0 3 0 0) : ACell), (.inr (.int, own_b m 0 0 0 0) : ACell), (.inr (.int, [.int 3]) : ACell)]) := by
  refine e3 ?_
  refine s3_0 ?_
  refine s3_1 rfl ?_
  refine s3_2 ?_
  refine s3_3 rfl ?_
  refine s3_6 ?_
  refine s3_7 1 rfl (by decide) rfl ?_
  refine s3_8 rfl ?_
  refine s3_9 ?_
  refine s3_10 (fun h => absurd h (by decide)) (fun _ => ?_)
  refine s3_13 ?_
  refine s3_16 ?_
  refine s3_17 rfl ?_
  refine s3_20 ?_
  refine s3_21 3 rfl (by decide) rfl ?_
  refine s3_22 rfl ?_
  refine s3_23 ?_
  refine s3_9 ?_
  refine s3_10 (fun _ => ?_) (fun h => absurd h (by decide))
  refine s3_26 ?_
  refine s3_27 6 1 (by decide) rfl rfl ?_
  refine s3_29 rfl ?_
  refine s3_30 ?_
  refine s3_31 rfl ?_
  refine s3_33 ?_
  refine s3_34 rfl ?_
  refine s3_37 ?_
  refine s3_38 1 rfl (by decide) rfl ?_
  refine s3_39 rfl ?_
  refine s3_41 ?_
  refine s3_43 (fun h => absurd h (by decide)) (fun _ => ?_)
  refine s3_46 ?_
  refine s3_47 ?_
  refine s3_49 ?_
  refine s3_51 0 rfl (by decide) rfl ?_
  refine s3_52 ?_
  refine s3_55 ?_
  refine s3_56 rfl ?_
  refine s3_59 ?_
  refine s3_61 3 rfl (by decide) rfl ?_
  refine s3_62 rfl ?_
  refine s3_64 ?_
  refine s3_41 ?_
  refine s3_43 (fun _ => ?_) (fun h => absurd h (by decide))
  refine s3_67 ?_
  exact s3_68 ⟨rfl, rfl⟩
theorem own_r53 {m : Nat} : M4 ⟨0, 1, 4, 0⟩ [.ref 6, .int 1, .int 1, .int 2, .int 0, .int 1, .int 1, .int 0] [(.inl (0, [.ref 1, .ref 2, .ref 3, .ref 4, .ref 5]) : ACell), (.inr (.int, own_a 3 0) : ACell), (.inr (.int, own_a 3 0) : ACell), (.inr (.int, own_b m 0 0 0 1) : ACell), (.inr (.int, own_b m 0 3 0 0) : ACell), (.inr (.int, own_b m 0 0 0 0) : ACell), (.inr (.int, [.int 3]) : ACell)] (Is (some (.int 1)) [(.inl (0, [.ref 1, .ref 2, .ref 3, .ref 4, .ref 5]) : ACell), (.inr (.int, own_a 3 0) : ACell), (.inr (.int, own_a 3 0) : ACell), (.inr (.int, own_b m 0 0 0 1) : ACell), (.inr (.int, own_b m 0 3 0 0) : ACell), (.inr (.int, own_b m 0 0 0 0) : ACell), (.inr (.int, [.int 3]) : ACell), (.inr (.int, [.int 3, .int 0, .int 0, .int 0]) : ACell)]) := by
  refine e4 ?_
  refine s4_0 ?_
  refine s4_1 7 4 (by decide) rfl rfl ?_
  refine s4_3 rfl ?_
  refine s4_5 ?_
  refine s4_6 rfl ?_
  refine s4_8 ?_
  refine s4_9 ?_
  refine s4_10 (fun h => absurd h (by decide)) (fun _ => ?_)
  refine s4_13 ?_
  refine s4_15 (fun h => absurd h (by decide)) (fun _ => ?_)
  refine s4_18 ?_
  refine s4_20 ?_
  refine s4_22 ?_
  refine s4_23 0 rfl (by decide) rfl ?_
  refine s4_24 ?_
  refine s4_27 ?_
  refine s4_28 ?_
  refine s4_29 (fun h => absurd h (by decide)) (fun _ => ?_)
  refine s4_32 ?_
  refine s4_34 (fun _ => ?_) (fun h => absurd h (by decide))
  refine s4_46 ?_
  refine s4_47 ?_
  refine s4_48 (fun _ => ?_) (fun h => absurd h (by decide))
  refine s4_65 ?_
  refine s4_67 (fun _ => ?_) (fun h => absurd h (by decide))
  refine s4_84 ?_
  refine s4_85k 1 rfl rfl ?_
  refine s4_86 ?_
  refine s4_88 (fun h => absurd h (by decide)) (fun _ => ?_)
  refine s4_91 ?_
  refine s4_93 ?_
  refine s4_94 (fun h => absurd h (by decide)) (fun _ => ?_)
  refine s4_97 ?_
  refine s4_98 ?_
  refine s4_99 0 rfl (by decide) rfl ?_
  refine s4_100 ?_
  refine s4_102 ?_
  refine s4_103 0 rfl (by decide) rfl ?_
  refine s4_104 (fun h => absurd h (by decide)) (fun _ => ?_)
  refine s4_107 ?_
  refine s4_109 ?_
  refine s4_110 (fun _ => ?_) (fun h => absurd h (by decide))
  refine s4_123 ?_
  refine s4_125 ?_
  refine s4_126 (fun _ => ?_) (fun h => absurd h (by decide))
  refine s4_139 ?_
  refine s4_141 ?_
  refine s4_142 (fun _ => ?_) (fun h => absurd h (by decide))
  refine s4_155 ?_
  refine s4_156 ?_
  exact s4_160 ⟨rfl, rfl⟩
theorem own_r54 {m : Nat} : M3 ⟨0, 1, 0, 0⟩ [.ref 0, .int 2] [(.inl (0, [.ref 1, .ref 2, .ref 3, .ref 4, .ref 5]) : ACell), (.inr (.int, own_a 3 0) : ACell), (.inr (.int, own_a 3 0) : ACell), (.inr (.int, own_b m 0 0 0 1) : ACell), (.inr (.int, own_b m 0 3 0 0) : ACell), (.inr (.int, own_b m 0 0 0 0) : ACell), (.inr (.int, [.int 3]) : ACell), (.inr (.int, [.int 3, .int 0, .int 0, .int 0]) : ACell)] (Is (some (.ref 8)) [(.inl (0, [.ref 1, .ref 2, .ref 3, .ref 4, .ref 5]) : ACell), (.inr (.int, own_a 3 0) : ACell), (.inr (.int, own_a 3 0) : ACell), (.inr (.int, own_b m 0 0 0 1) : ACell), (.inr (.int, own_b m 0 3 0 0) : ACell), (.inr (.int, own_b m 0 0 0 0) : ACell), (.inr (.int, [.int 3]) : ACell), (.inr (.int, [.int 3, .int 0, .int 0, .int 0]) : ACell), (.inr (.int, []) : ACell)]) := by
  refine e3 ?_
  refine s3_0 ?_
  refine s3_1 rfl ?_
  refine s3_2 ?_
  refine s3_3 rfl ?_
  refine s3_6 ?_
  refine s3_7 2 rfl (by decide) rfl ?_
  refine s3_8 rfl ?_
  refine s3_9 ?_
  refine s3_10 (fun _ => ?_) (fun h => absurd h (by decide))
  refine s3_26 ?_
  refine s3_27 8 0 (by decide) rfl rfl ?_
  refine s3_29 rfl ?_
  refine s3_30 ?_
  refine s3_31 rfl ?_
  refine s3_33 ?_
  refine s3_34 rfl ?_
  refine s3_37 ?_
  refine s3_38 2 rfl (by decide) rfl ?_
  refine s3_39 rfl ?_
  refine s3_41 ?_
  refine s3_43 (fun _ => ?_) (fun h => absurd h (by decide))
  refine s3_67 ?_
  exact s3_68 ⟨rfl, rfl⟩
theorem own_r55 {m : Nat} : M4 ⟨0, 1, 4, 0⟩ [.ref 8, .int 2, .int 1, .int 2, .int 0, .int 1, .int 1, .int 0] [(.inl (0, [.ref 1, .ref 2, .ref 3, .ref 4, .ref 5]) : ACell), (.inr (.int, own_a 3 0) : ACell), (.inr (.int, own_a 3 0) : ACell), (.inr (.int, own_b m 0 0 0 1) : ACell), (.inr (.int, own_b m 0 3 0 0) : ACell), (.inr (.int, own_b m 0 0 0 0) : ACell), (.inr (.int, [.int 3]) : ACell), (.inr (.int, [.int 3, .int 0, .int 0, .int 0]) : ACell), (.inr (.int, []) : ACell)] (Is (some (.int 1)) [(.inl (0, [.ref 1, .ref 2, .ref 3, .ref 4, .ref 5]) : ACell), (.inr (.int, own_a 3 0) : ACell), (.inr (.int, own_a 3 0) : ACell), (.inr (.int, own_b m 0 0 0 1) : ACell), (.inr (.int, own_b m 0 3 0 0) : ACell), (.inr (.int, own_b m 0 0 0 0) : ACell), (.inr (.int, [.int 3]) : ACell), (.inr (.int, [.int 3, .int 0, .int 0, .int 0]) : ACell), (.inr (.int, []) : ACell), (.inr (.int, [.int 0, .int 0, .int 0, .int 0]) : ACell)]) := by
  refine e4 ?_
  refine s4_0 ?_
  refine s4_1 9 4 (by decide) rfl rfl ?_
  refine s4_3 rfl ?_
  refine s4_5 ?_
  refine s4_6 rfl ?_
  refine s4_8 ?_
  refine s4_9 ?_
  refine s4_10 (fun _ => ?_) (fun h => absurd h (by decide))
  refine s4_27 ?_
  refine s4_28 ?_
  refine s4_29 (fun _ => ?_) (fun h => absurd h (by decide))
  refine s4_46 ?_
  refine s4_47 ?_
  refine s4_48 (fun h => absurd h (by decide)) (fun _ => ?_)
  refine s4_51 ?_
  refine s4_53 (fun _ => ?_) (fun h => absurd h (by decide))
  refine s4_65 ?_
  refine s4_67 (fun _ => ?_) (fun h => absurd h (by decide))
  refine s4_84 ?_
  refine s4_85k 0 rfl rfl ?_
  refine s4_86 ?_
  refine s4_88 (fun h => absurd h (by decide)) (fun _ => ?_)
  refine s4_91 ?_
  refine s4_93 ?_
  refine s4_94 (fun _ => ?_) (fun h => absurd h (by decide))
  refine s4_107 ?_
  refine s4_109 ?_
  refine s4_110 (fun _ => ?_) (fun h => absurd h (by decide))
  refine s4_123 ?_
  refine s4_125 ?_
  refine s4_126 (fun _ => ?_) (fun h => absurd h (by decide))
  refine s4_139 ?_
  refine s4_141 ?_
  refine s4_142 (fun _ => ?_) (fun h => absurd h (by decide))
  refine s4_155 ?_
  refine s4_156 ?_
  exact s4_160 ⟨rfl, rfl⟩
theorem own_r56 {m : Nat} : M2 ⟨0, 0, 0, 0⟩ [.ref 0, .int 1, .int 1] [(.inl (0, [.ref 1, .ref 2, .ref 3, .ref 4, .ref 5]) : ACell), (.inr (.int, own_a 3 2) : ACell), (.inr (.int, own_a 3 2) : ACell), (.inr (.int, own_b m 0 0 2 1) : ACell), (.inr (.int, own_b m 0 3 0 0) : ACell), (.inr (.int, own_b m 0 0 0 0) : ACell)] (Is none [(.inl (0, [.ref 1, .ref 2, .ref 3, .ref 4, .ref 5]) : ACell), (.inr (.int, own_a 3 2) : ACell), (.inr (.int, own_a 1 2) : ACell), (.inr (.int, own_b m 0 1 2 1) : ACell), (.inr (.int, own_b m 0 3 0 0) : ACell), (.inr (.int, own_b m 0 0 0 1) : ACell)]) := by
  refine e2 ?_
  refine s2_0 ?_
  refine s2_1 ?_
  refine s2_2 rfl ?_
  refine s2_5k 16 rfl rfl ?_
  refine s2_6 (fun _ => ?_) (fun h => absurd h (by decide))
  refine s2_45 ?_
  refine s2_46 rfl ?_
  refine s2_49 ?_
  refine s2_50 ?_
  refine s2_51 1 rfl (by decide) rfl ?_
  refine s2_52 ?_
  refine s2_53 rfl ?_
  refine s2_56 ?_
  refine s2_57 ?_
  refine s2_58 rfl ?_
  refine s2_61 ?_
  refine s2_62 1 rfl (by decide) rfl ?_
  refine s2_63 1 rfl (by decide) rfl ?_
  refine s2_64 ?_
  refine s2_65 rfl ?_
  refine s2_68 ?_
  refine s2_69 ?_
  refine s2_70 1 rfl (by decide) rfl ?_
  refine s2_71 ?_
  refine s2_72 rfl ?_
  refine s2_75 ?_
  refine s2_76 1 rfl (by decide) rfl ?_
  refine s2_77 (fun _ => ?_) (fun h => absurd h (by decide))
  refine s2_90 ?_
  refine s2_91 rfl ?_
  refine s2_94 ?_
  refine s2_95 rfl ?_
  refine s2_98 ?_
  refine s2_99 1 rfl (by decide) rfl ?_
  refine s2_100 ?_
  refine s2_101 3 rfl (by decide) rfl ?_
  refine s2_102 ?_
  refine s2_103 rfl ?_
  refine s2_106 ?_
  refine s2_107 ?_
  refine s2_108 1 rfl (by decide) rfl ?_
  exact s2_109 ⟨rfl, rfl⟩
theorem own_r57 {m : Nat} : M4 ⟨0, 1, 4, 0⟩ [.ref 6, .int 1, .int 1, .int 2, .int 0, .int 1, .int 0, .int 1] [(.inl (0, [.ref 1, .ref 2, .ref 3, .ref 4, .ref 5]) : ACell), (.inr (.int, own_a 3 2) : ACell), (.inr (.int, own_a 1 2) : ACell), (.inr (.int, own_b m 0 1 2 1) : ACell), (.inr (.int, own_b m 0 3 0 0) : ACell), (.inr (.int, own_b m 0 0 0 1) : ACell), (.inr (.int, [.int 3, .int 1]) : ACell)] (Is (some (.int 1)) [(.inl (0, [.ref 1, .ref 2, .ref 3, .ref 4, .ref 5]) : ACell), (.inr (.int, own_a 3 2) : ACell), (.inr (.int, own_a 1 2) : ACell), (.inr (.int, own_b m 0 1 2 1) : ACell), (.inr (.int, own_b m 0 3 0 0) : ACell), (.inr (.int, own_b m 0 0 0 1) : ACell), (.inr (.int, [.int 3, .int 1]) : ACell), (.inr (.int, [.int 3, .int 1, .int 0, .int 0]) : ACell)]) := by
  refine e4 ?_
  refine s4_0 ?_
  refine s4_1 7 4 (by decide) rfl rfl ?_
  refine s4_3 rfl ?_
  refine s4_5 ?_
  refine s4_6 rfl ?_
  refine s4_8 ?_
  refine s4_9 ?_
  refine s4_10 (fun h => absurd h (by decide)) (fun _ => ?_)
  refine s4_13 ?_
  refine s4_15 (fun h => absurd h (by decide)) (fun _ => ?_)
  refine s4_18 ?_
  refine s4_20 ?_
  refine s4_22 ?_
  refine s4_23 0 rfl (by decide) rfl ?_
  refine s4_24 ?_
  refine s4_27 ?_
  refine s4_28 ?_
  refine s4_29 (fun h => absurd h (by decide)) (fun _ => ?_)
  refine s4_32 ?_
  refine s4_34 (fun _ => ?_) (fun h => absurd h (by decide))
  refine s4_46 ?_
  refine s4_47 ?_
  refine s4_48 (fun _ => ?_) (fun h => absurd h (by decide))
  refine s4_65 ?_
  refine s4_67 (fun h => absurd h (by decide)) (fun _ => ?_)
  refine s4_70 ?_
  refine s4_71 ?_
  refine s4_72 (fun h => absurd h (by decide)) (fun _ => ?_)
  refine s4_75 ?_
  refine s4_77 ?_
  refine s4_79 ?_
  refine s4_80 1 rfl (by decide) rfl ?_
  refine s4_81 ?_
  refine s4_84 ?_
  refine s4_85k 2 rfl rfl ?_
  refine s4_86 ?_
  refine s4_88 (fun h => absurd h (by decide)) (fun _ => ?_)
  refine s4_91 ?_
  refine s4_93 ?_
  refine s4_94 (fun h => absurd h (by decide)) (fun _ => ?_)
  refine s4_97 ?_
  refine s4_98 ?_
  refine s4_99 0 rfl (by decide) rfl ?_
  refine s4_100 ?_
  refine s4_102 ?_
  refine s4_103 0 rfl (by decide) rfl ?_
  refine s4_104 (fun h => absurd h (by decide)) (fun _ => ?_)
  refine s4_107 ?_
  refine s4_109 ?_
  refine s4_110 (fun h => absurd h (by decide)) (fun _ => ?_)
  refine s4_113 ?_
  refine s4_114 ?_
  refine s4_115 1 rfl (by decide) rfl ?_
  refine s4_116 ?_
  refine s4_118 ?_
  refine s4_119 1 rfl (by decide) rfl ?_
  refine s4_120 (fun h => absurd h (by decide)) (fun _ => ?_)
  refine s4_123 ?_
  refine s4_125 ?_
  refine s4_126 (fun _ => ?_) (fun h => absurd h (by decide))
  refine s4_139 ?_
  refine s4_141 ?_
  refine s4_142 (fun _ => ?_) (fun h => absurd h (by decide))
  refine s4_155 ?_
  refine s4_156 ?_
  exact s4_160 ⟨rfl, rfl⟩
theorem own_r58 {m : Nat} : M4 ⟨0, 1, 4, 0⟩ [.ref 8, .int 2, .int 1, .int 2, .int 0, .int 1, .int 0, .int 1] [(.inl (0, [.ref 1, .ref 2, .ref 3, .ref 4, .ref 5]) : ACell), (.inr (.int, own_a 3 2) : ACell), (.inr (.int, own_a 1 2) : ACell), (.inr (.int, own_b m 0 1 2 1) : ACell), (.inr (.int, own_b m 0 3 0 0) : ACell), (.inr (.int, own_b m 0 0 0 1) : ACell), (.inr (.int, [.int 3, .int 1]) : ACell), (.inr (.int, [.int 3, .int 1, .int 0, .int 0]) : ACell), (.inr (.int, [.int 2]) : ACell)] (Is (some (.int 1)) [(.inl (0, [.ref 1, .ref 2, .ref 3, .ref 4, .ref 5]) : ACell), (.inr (.int, own_a 3 2) : ACell), (.inr (.int, own_a 1 2) : ACell), (.inr (.int, own_b m 0 1 2 1) : ACell), (.inr (.int, own_b m 0 3 0 0) : ACell), (.inr (.int, own_b m 0 0 0 1) : ACell), (.inr (.int, [.int 3, .int 1]) : ACell), (.inr (.int, [.int 3, .int 1, .int 0, .int 0]) : ACell), (.inr (.int, [.int 2]) : ACell), (.inr (.int, [.int 2, .int 0, .int 0, .int 0]) : ACell)]) := by
  refine e4 ?_
  refine s4_0 ?_
  refine s4_1 9 4 (by decide) rfl rfl ?_
  refine s4_3 rfl ?_
  refine s4_5 ?_
  refine s4_6 rfl ?_
  refine s4_8 ?_
  refine s4_9 ?_
  refine s4_10 (fun _ => ?_) (fun h => absurd h (by decide))
  refine s4_27 ?_
  refine s4_28 ?_
  refine s4_29 (fun _ => ?_) (fun h => absurd h (by decide))
  refine s4_46 ?_
  refine s4_47 ?_
  refine s4_48 (fun h => absurd h (by decide)) (fun _ => ?_)
  refine s4_51 ?_
  refine s4_53 (fun h => absurd h (by decide)) (fun _ => ?_)
  refine s4_56 ?_
  refine s4_58 ?_
  refine s4_60 ?_
  refine s4_61 0 rfl (by decide) rfl ?_
  refine s4_62 ?_
  refine s4_65 ?_
  refine s4_67 (fun h => absurd h (by decide)) (fun _ => ?_)
  refine s4_70 ?_
  refine s4_71 ?_
  refine s4_72 (fun _ => ?_) (fun h => absurd h (by decide))
  refine s4_84 ?_
  refine s4_85k 1 rfl rfl ?_
  refine s4_86 ?_
  refine s4_88 (fun h => absurd h (by decide)) (fun _ => ?_)
  refine s4_91 ?_
  refine s4_93 ?_
  refine s4_94 (fun h => absurd h (by decide)) (fun _ => ?_)
  refine s4_97 ?_
  refine s4_98 ?_
  refine s4_99 0 rfl (by decide) rfl ?_
  refine s4_100 ?_
  refine s4_102 ?_
  refine s4_103 0 rfl (by decide) rfl ?_
  refine s4_104 (fun h => absurd h (by decide)) (fun _ => ?_)
  refine s4_107 ?_
  refine s4_109 ?_
  refine s4_110 (fun _ => ?_) (fun h => absurd h (by decide))
  refine s4_123 ?_
  refine s4_125 ?_
  refine s4_126 (fun _ => ?_) (fun h => absurd h (by decide))
  refine s4_139 ?_
  refine s4_141 ?_
  refine s4_142 (fun _ => ?_) (fun h => absurd h (by decide))
  refine s4_155 ?_
  refine s4_156 ?_
  exact s4_160 ⟨rfl, rfl⟩
theorem own_r59 {m : Nat} : M2 ⟨0, 0, 0, 0⟩ [.ref 0, .int 1, .int 1] [(.inl (0, [.ref 1, .ref 2, .ref 3, .ref 4, .ref 5]) : ACell), (.inr (.int, own_a 3 0) : ACell), (.inr (.int, own_a 3 0) : ACell), (.inr (.int, own_b m 0 0 0 1) : ACell), (.inr (.int, own_b m 0 3 0 0) : ACell), (.inr (.int, own_b m 0 0 0 0) : ACell)] (Is none [(.inl (0, [.ref 1, .ref 2, .ref 3, .ref 4, .ref 5]) : ACell), (.inr (.int, own_a 3 0) : ACell), (.inr (.int, own_a 1 0) : ACell), (.inr (.int, own_b m 0 1 0 1) : ACell), (.inr (.int, own_b m 0 3 0 0) : ACell), (.inr (.int, own_b m 0 0 0 1) : ACell)]) := by
  refine e2 ?_
  refine s2_0 ?_
  refine s2_1 ?_
  refine s2_2 rfl ?_
  refine s2_5k 16 rfl rfl ?_
  refine s2_6 (fun _ => ?_) (fun h => absurd h (by decide))
  refine s2_45 ?_
  refine s2_46 rfl ?_
  refine s2_49 ?_
  refine s2_50 ?_
  refine s2_51 1 rfl (by decide) rfl ?_
  refine s2_52 ?_
  refine s2_53 rfl ?_
  refine s2_56 ?_
  refine s2_57 ?_
  refine s2_58 rfl ?_
  refine s2_61 ?_
  refine s2_62 1 rfl (by decide) rfl ?_
  refine s2_63 1 rfl (by decide) rfl ?_
  refine s2_64 ?_
  refine s2_65 rfl ?_
  refine s2_68 ?_
  refine s2_69 ?_
  refine s2_70 1 rfl (by decide) rfl ?_
  refine s2_71 ?_
  refine s2_72 rfl ?_
  refine s2_75 ?_
  refine s2_76 1 rfl (by decide) rfl ?_
  refine s2_77 (fun _ => ?_) (fun h => absurd h (by decide))
  refine s2_90 ?_
  refine s2_91 rfl ?_
  refine s2_94 ?_
  refine s2_95 rfl ?_
  refine s2_98 ?_
  refine s2_99 1 rfl (by decide) rfl ?_
  refine s2_100 ?_
  refine s2_101 3 rfl (by decide) rfl ?_
  refine s2_102 ?_
  refine s2_103 rfl ?_
  refine s2_106 ?_
  refine s2_107 ?_
  refine s2_108 1 rfl (by decide) rfl ?_
  exact s2_109 ⟨rfl, rfl⟩
theorem own_r60 {m : Nat} : M4 ⟨0, 1, 4, 0⟩ [.ref 6, .int 1, .int 1, .int 2, .int 0, .int 1, .int 1, .int 1] [(.inl (0, [.ref 1, .ref 2, .ref 3, .ref 4, .ref 5]) : ACell), (.inr (.int, own_a 3 0) : ACell), (.inr (.int, own_a 1 0) : ACell), (.inr (.int, own_b m 0 1 0 1) : ACell), (.inr (.int, own_b m 0 3 0 0) : ACell), (.inr (.int, own_b m 0 0 0 1) : ACell), (.inr (.int, [.int 3, .int 1]) : ACell)] (Is (some (.int 1)) [(.inl (0, [.ref 1, .ref 2, .ref 3, .ref 4, .ref 5]) : ACell), (.inr (.int, own_a 3 0) : ACell), (.inr (.int, own_a 1 0) : ACell), (.inr (.int, own_b m 0 1 0 1) : ACell), (.inr (.int, own_b m 0 3 0 0) : ACell), (.inr (.int, own_b m 0 0 0 1) : ACell), (.inr (.int, [.int 3, .int 1]) : ACell), (.inr (.int, [.int 3, .int 1, .int 0, .int 0]) : ACell)]) := by
  refine e4 ?_
  refine s4_0 ?_
  refine s4_1 7 4 (by decide) rfl rfl ?_
  refine s4_3 rfl ?_
  refine s4_5 ?_
  refine s4_6 rfl ?_
  refine s4_8 ?_
  refine s4_9 ?_
  refine s4_10 (fun h => absurd h (by decide)) (fun _ => ?_)
  refine s4_13 ?_
  refine s4_15 (fun h => absurd h (by decide)) (fun _ => ?_)
  refine s4_18 ?_
  refine s4_20 ?_
  refine s4_22 ?_
  refine s4_23 0 rfl (by decide) rfl ?_
  refine s4_24 ?_
  refine s4_27 ?_
  refine s4_28 ?_
  refine s4_29 (fun h => absurd h (by decide)) (fun _ => ?_)
  refine s4_32 ?_
  refine s4_34 (fun _ => ?_) (fun h => absurd h (by decide))
  refine s4_46 ?_
  refine s4_47 ?_
  refine s4_48 (fun _ => ?_) (fun h => absurd h (by decide))
  refine s4_65 ?_
  refine s4_67 (fun h => absurd h (by decide)) (fun _ => ?_)
  refine s4_70 ?_
  refine s4_71 ?_
  refine s4_72 (fun h => absurd h (by decide)) (fun _ => ?_)
  refine s4_75 ?_
  refine s4_77 ?_
  refine s4_79 ?_
  refine s4_80 1 rfl (by decide) rfl ?_
  refine s4_81 ?_
  refine s4_84 ?_
  refine s4_85k 2 rfl rfl ?_
  refine s4_86 ?_
  refine s4_88 (fun h => absurd h (by decide)) (fun _ => ?_)
  refine s4_91 ?_
  refine s4_93 ?_
  refine s4_94 (fun h => absurd h (by decide)) (fun _ => ?_)
  refine s4_97 ?_
  refine s4_98 ?_
  refine s4_99 0 rfl (by decide) rfl ?_
  refine s4_100 ?_
  refine s4_102 ?_
  refine s4_103 0 rfl (by decide) rfl ?_
  refine s4_104 (fun h => absurd h (by decide)) (fun _ => ?_)
  refine s4_107 ?_
  refine s4_109 ?_
  refine s4_110 (fun h => absurd h (by decide)) (fun _ => ?_)
  refine s4_113 ?_
  refine s4_114 ?_
  refine s4_115 1 rfl (by decide) rfl ?_
  refine s4_116 ?_
  refine s4_118 ?_
  refine s4_119 1 rfl (by decide) rfl ?_
  refine s4_120 (fun h => absurd h (by decide)) (fun _ => ?_)
  refine s4_123 ?_
  refine s4_125 ?_
  refine s4_126 (fun _ => ?_) (fun h => absurd h (by decide))
  refine s4_139 ?_
  refine s4_141 ?_
  refine s4_142 (fun _ => ?_) (fun h => absurd h (by decide))
  refine s4_155 ?_
  refine s4_156 ?_
  exact s4_160 ⟨rfl, rfl⟩
theorem own_r61 {m : Nat} : M4 ⟨0, 1, 4, 0⟩ [.ref 8, .int 2, .int 1, .int 2, .int 0, .int 1, .int 1, .int 1] [(.inl (0, [.ref 1, .ref 2, .ref 3, .ref 4, .ref 5]) : ACell), (.inr (.int, own_a 3 0) : ACell), (.inr (.int, own_a 1 0) : ACell), (.inr (.int, own_b m 0 1 0 1) : ACell), (.inr (.int, own_b m 0 3 0 0) : ACell), (.inr (.int, own_b m 0 0 0 1) : ACell), (.inr (.int, [.int 3, .int 1]) : ACell), (.inr (.int, [.int 3, .int 1, .int 0, .int 0]) : ACell), (.inr (.int, []) : ACell)] (Is (some (.int 1)) [(.inl (0, [.ref 1, .ref 2, .ref 3, .ref 4, .ref 5]) : ACell), (.inr (.int, own_a 3 0) : ACell), (.inr (.int, own_a 1 0) : ACell), (.inr (.int, own_b m 0 1 0 1) : ACell), (.inr (.int, own_b m 0 3 0 0) : ACell), (.inr (.int, own_b m 0 0 0 1) : ACell), (.inr (.int, [.int 3, .int 1]) : ACell), (.inr (.int, [.int 3, .int 1, .int 0, .int 0]) : ACell), (.inr (.int, []) : ACell), (.inr (.int, [.int 0, .int 0, .int 0, .int 0]) : ACell)]) := by
  refine e4 ?_
  refine s4_0 ?_
  refine s4_1 9 4 (by decide) rfl rfl ?_
  refine s4_3 rfl ?_
  refine s4_5 ?_
  refine s4_6 rfl ?_
  refine s4_8 ?_
  refine s4_9 ?_
  refine s4_10 (fun _ => ?_) (fun h => absurd h (by decide))
  refine s4_27 ?_
  refine s4_28 ?_
  refine s4_29 (fun _ => ?_) (fun h => absurd h (by decide))
  refine s4_46 ?_
  refine s4_47 ?_
  refine s4_48 (fun h => absurd h (by decide)) (fun _ => ?_)
  refine s4_51 ?_
  refine s4_53 (fun _ => ?_) (fun h => absurd h (by decide))
  refine s4_65 ?_
  refine s4_67 (fun h => absurd h (by decide)) (fun _ => ?_)
  refine s4_70 ?_
  refine s4_71 ?_
  refine s4_72 (fun _ => ?_) (fun h => absurd h (by decide))
  refine s4_84 ?_
  refine s4_85k 0 rfl rfl ?_
  refine s4_86 ?_
  refine s4_88 (fun h => absurd h (by decide)) (fun _ => ?_)
  refine s4_91 ?_
  refine s4_93 ?_
  refine s4_94 (fun _ => ?_) (fun h => absurd h (by decide))
  refine s4_107 ?_
  refine s4_109 ?_
  refine s4_110 (fun _ => ?_) (fun h => absurd h (by decide))
  refine s4_123 ?_
  refine s4_125 ?_
  refine s4_126 (fun _ => ?_) (fun h => absurd h (by decide))
  refine s4_139 ?_
  refine s4_141 ?_
  refine s4_142 (fun _ => ?_) (fun h => absurd h (by decide))
  refine s4_155 ?_
  refine s4_156 ?_
  exact s4_160 ⟨rfl, rfl⟩
theorem own_r62 {m : Nat} : M5 ⟨0, 0, 0, 0⟩ [.ref 0, .int 3] [(.inl (0, [.ref 1, .ref 2, .ref 3, .ref 4, .ref 5]) : ACell), (.inr (.int, own_a 3 2) : ACell), (.inr (.int, own_a 1 2) : ACell), (.inr (.int, own_b m 0 1 2 1) : ACell), (.inr (.int, own_b m 0 3 0 0) : ACell), (.inr (.int, own_b m 0 0 0 1) : ACell)] (Is none [(.inl (0, [.ref 1, .ref 2, .ref 3, .ref 4, .ref 5]) : ACell), (.inr (.int, own_a 1 2) : ACell), (.inr (.int, own_a 1 2) : ACell), (.inr (.int, own_b m 0 1 2 0) : ACell), (.inr (.int, own_b m 0 0 0 0) : ACell), (.inr (.int, own_b m 0 0 0 1) : ACell)]) := by
  refine e5 ?_
  refine s5_0 ?_
  refine s5_1 rfl ?_
  refine s5_4 ?_
  refine s5_5 3 rfl (by decide) rfl ?_
  refine s5_6 rfl ?_
  refine s5_7 ?_
  refine s5_8 rfl ?_
  refine s5_11 ?_
  refine s5_12 3 rfl (by decide) rfl ?_
  refine s5_13 (fun h => absurd h (by decide)) (fun _ => ?_)
  refine s5_16 ?_
  refine s5_17 rfl ?_
  refine s5_20 ?_
  refine s5_21 ?_
  refine s5_22 rfl ?_
  refine s5_25 ?_
  refine s5_26 3 rfl (by decide) rfl ?_
  refine s5_27 1 rfl (by decide) rfl ?_
  refine s5_28 ?_
  refine s5_48 ?_
  refine s5_49 rfl ?_
  refine s5_52 ?_
  refine s5_53 3 rfl (by decide) rfl ?_
  refine s5_54 (fun _ => ?_) (fun h => absurd h (by decide))
  refine s5_72 ?_
  refine s5_73 rfl ?_
  refine s5_76 ?_
  refine s5_77 rfl ?_
  refine s5_80 ?_
  refine s5_81 3 rfl (by decide) rfl ?_
  refine s5_82 ?_
  refine s5_83 rfl ?_
  refine s5_86 ?_
  refine s5_87 3 rfl (by decide) rfl ?_
  refine s5_88 1 rfl (by decide) rfl ?_
  refine s5_89 ?_
  refine s5_90 rfl ?_
  refine s5_93 ?_
  refine s5_94 ?_
  refine s5_95 3 rfl (by decide) rfl ?_
  exact s5_96 ⟨rfl, rfl⟩
theorem own_r63 {m : Nat} : M3 ⟨0, 1, 1, 0⟩ [.ref 0, .int 1] [(.inl (0, [.ref 1, .ref 2, .ref 3, .ref 4, .ref 5]) : ACell), (.inr (.int, own_a 1 2) : ACell), (.inr (.int, own_a 1 2) : ACell), (.inr (.int, own_b m 0 1 2 0) : ACell), (.inr (.int, own_b m 0 0 0 0) : ACell), (.inr (.int, own_b m 0 0 0 1) : ACell)] (Is (some (.ref 6)) [(.inl (0, [.ref 1, .ref 2, .ref 3, .ref 4, .ref 5]) : ACell), (.inr (.int, own_a 1 2) : ACell), (.inr (.int, own_a 1 2) : ACell), (.inr (.int, own_b m 0 1 2 0) : ACell), (.inr (.int, own_b m 0 0 0 0) : ACell), (.inr (.int, own_b m 0 0 0 1) : ACell), (.inr (.int, [.int 1]) : ACell)]) := by
  refine e3 ?_
  refine s3_0 ?_
  refine s3_1 rfl ?_
  refine s3_2 ?_
  refine s3_3 rfl ?_
  refine s3_6 ?_
  refine s3_7 1 rfl (by decide) rfl ?_
  refine s3_8 rfl ?_
  refine s3_9 ?_
  refine s3_10 (fun h => absurd h (by decide)) (fun _ => ?_)
  refine s3_13 ?_
  refine s3_16 ?_
  refine s3_17 rfl ?_
  refine s3_20 ?_
  refine s3_21 1 rfl (by decide) rfl ?_
  refine s3_22 rfl ?_
  refine s3_23 ?_
  refine s3_9 ?_
  refine s3_10 (fun _ => ?_) (fun h => absurd h (by decide))
  refine s3_26 ?_
  refine s3_27 6 1 (by decide) rfl rfl ?_
  refine s3_29 rfl ?_
  refine s3_30 ?_
  refine s3_31 rfl ?_
  refine s3_33 ?_
  refine s3_34 rfl ?_
  refine s3_37 ?_
  refine s3_38 1 rfl (by decide) rfl ?_
  refine s3_39 rfl ?_
  refine s3_41 ?_
  refine s3_43 (fun h => absurd h (by decide)) (fun _ => ?_)
  refine s3_46 ?_
  refine s3_47 ?_
  refine s3_49 ?_
  refine s3_51 0 rfl (by decide) rfl ?_
  refine s3_52 ?_
  refine s3_55 ?_
  refine s3_56 rfl ?_
  refine s3_59 ?_
  refine s3_61 1 rfl (by decide) rfl ?_
  refine s3_62 rfl ?_
  refine s3_64 ?_
  refine s3_41 ?_
  refine s3_43 (fun _ => ?_) (fun h => absurd h (by decide))
  refine s3_67 ?_
  exact s3_68 ⟨rfl, rfl⟩
theorem own_r64 {m : Nat} : M4 ⟨0, 1, 4, 0⟩ [.ref 6, .int 1, .int 1, .int 2, .int 1, .int 0, .int 0, .int 0] [(.inl (0, [.ref 1, .ref 2, .ref 3, .ref 4, .ref 5]) : ACell), (.inr (.int, own_a 1 2) : ACell), (.inr (.int, own_a 1 2) : ACell), (.inr (.int, own_b m 0 1 2 0) : ACell), (.inr (.int, own_b m 0 0 0 0) : ACell), (.inr (.int, own_b m 0 0 0 1) : ACell), (.inr (.int, [.int 1]) : ACell)] (Is (some (.int 1)) [(.inl (0, [.ref 1, .ref 2, .ref 3, .ref 4, .ref 5]) : ACell), (.inr (.int, own_a 1 2) : ACell), (.inr (.int, own_a 1 2) : ACell), (.inr (.int, own_b m 0 1 2 0) : ACell), (.inr (.int, own_b m 0 0 0 0) : ACell), (.inr (.int, own_b m 0 0 0 1) : ACell), (.inr (.int, [.int 1]) : ACell), (.inr (.int, [.int 1, .int 0, .int 0, .int 0]) : ACell)]) := by
  refine e4 ?_
  refine s4_0 ?_
  refine s4_1 7 4 (by decide) rfl rfl ?_
  refine s4_3 rfl ?_
  refine s4_5 ?_
  refine s4_6 rfl ?_
  refine s4_8 ?_
  refine s4_9 ?_
  refine s4_10 (fun h => absurd h (by decide)) (fun _ => ?_)
  refine s4_13 ?_
  refine s4_15 (fun _ => ?_) (fun h => absurd h (by decide))
  refine s4_27 ?_
  refine s4_28 ?_
  refine s4_29 (fun h => absurd h (by decide)) (fun _ => ?_)
  refine s4_32 ?_
  refine s4_34 (fun h => absurd h (by decide)) (fun _ => ?_)
  refine s4_37 ?_
  refine s4_39 ?_
  refine s4_41 ?_
  refine s4_42 0 rfl (by decide) rfl ?_
  refine s4_43 ?_
  refine s4_46 ?_
  refine s4_47 ?_
  refine s4_48 (fun _ => ?_) (fun h => absurd h (by decide))
  refine s4_65 ?_
  refine s4_67 (fun _ => ?_) (fun h => absurd h (by decide))
  refine s4_84 ?_
  refine s4_85k 1 rfl rfl ?_
  refine s4_86 ?_
  refine s4_88 (fun h => absurd h (by decide)) (fun _ => ?_)
  refine s4_91 ?_
  refine s4_93 ?_
  refine s4_94 (fun h => absurd h (by decide)) (fun _ => ?_)
  refine s4_97 ?_
  refine s4_98 ?_
  refine s4_99 0 rfl (by decide) rfl ?_
  refine s4_100 ?_
  refine s4_102 ?_
  refine s4_103 0 rfl (by decide) rfl ?_
  refine s4_104 (fun h => absurd h (by decide)) (fun _ => ?_)
  refine s4_107 ?_
  refine s4_109 ?_
  refine s4_110 (fun _ => ?_) (fun h => absurd h (by decide))
  refine s4_123 ?_
  refine s4_125 ?_
  refine s4_126 (fun _ => ?_) (fun h => absurd h (by decide))
  refine s4_139 ?_
  refine s4_141 ?_
  refine s4_142 (fun _ => ?_) (fun h => absurd h (by decide))
  refine s4_155 ?_
  refine s4_156 ?_
  exact s4_160 ⟨rfl, rfl⟩
theorem own_r65 {m : Nat} : M3 ⟨0, 1, 1, 0⟩ [.ref 0, .int 2] [(.inl (0, [.ref 1, .ref 2, .ref 3, .ref 4, .ref 5]) : ACell), (.inr (.int, own_a 1 2) : ACell), (.inr (.int, own_a 1 2) : ACell), (.inr (.int, own_b m 0 1 2 0) : ACell), (.inr (.int, own_b m 0 0 0 0) : ACell), (.inr (.int, own_b m 0 0 0 1) : ACell), (.inr (.int, [.int 1]) : ACell), (.inr (.int, [.int 1, .int 0, .int 0, .int 0]) : ACell)] (Is (some (.ref 8)) [(.inl (0, [.ref 1, .ref 2, .ref 3, .ref 4, .ref 5]) : ACell), (.inr (.int, own_a 1 2) : ACell), (.inr (.int, own_a 1 2) : ACell), (.inr (.int, own_b m 0 1 2 0) : ACell), (.inr (.int, own_b m 0 0 0 0) : ACell), (.inr (.int, own_b m 0 0 0 1) : ACell), (.inr (.int, [.int 1]) : ACell), (.inr (.int, [.int 1, .int 0, .int 0, .int 0]) : ACell), (.inr (.int, [.int 2]) : ACell)]) := by
  refine e3 ?_
  refine s3_0 ?_
  refine s3_1 rfl ?_
  refine s3_2 ?_
  refine s3_3 rfl ?_
  refine s3_6 ?_
  refine s3_7 2 rfl (by decide) rfl ?_
  refine s3_8 rfl ?_
  refine s3_9 ?_
  refine s3_10 (fun h => absurd h (by decide)) (fun _ => ?_)
  refine s3_13 ?_
  refine s3_16 ?_
  refine s3_17 rfl ?_
  refine s3_20 ?_
  refine s3_21 2 rfl (by decide) rfl ?_
  refine s3_22 rfl ?_
  refine s3_23 ?_
  refine s3_9 ?_
  refine s3_10 (fun _ => ?_) (fun h => absurd h (by decide))
  refine s3_26 ?_
  refine s3_27 8 1 (by decide) rfl rfl ?_
  refine s3_29 rfl ?_
  refine s3_30 ?_
  refine s3_31 rfl ?_
  refine s3_33 ?_
  refine s3_34 rfl ?_
  refine s3_37 ?_
  refine s3_38 2 rfl (by decide) rfl ?_
  refine s3_39 rfl ?_
  refine s3_41 ?_
  refine s3_43 (fun h => absurd h (by decide)) (fun _ => ?_)
  refine s3_46 ?_
  refine s3_47 ?_
  refine s3_49 ?_
  refine s3_51 0 rfl (by decide) rfl ?_
  refine s3_52 ?_
  refine s3_55 ?_
  refine s3_56 rfl ?_
  refine s3_59 ?_
  refine s3_61 2 rfl (by decide) rfl ?_
  refine s3_62 rfl ?_
  refine s3_64 ?_
  refine s3_41 ?_
  refine s3_43 (fun _ => ?_) (fun h => absurd h (by decide))
  refine s3_67 ?_
  exact s3_68 ⟨rfl, rfl⟩
theorem own_r66 {m : Nat} : M4 ⟨0, 1, 4, 0⟩ [.ref 8, .int 2, .int 1, .int 2, .int 1, .int 0, .int 0, .int 0] [(.inl (0, [.ref 1, .ref 2, .ref 3, .ref 4, .ref 5]) : ACell), (.inr (.int, own_a 1 2) : ACell), (.inr (.int, own_a 1 2) : ACell), (.inr (.int, own_b m 0 1 2 0) : ACell), (.inr (.int, own_b m 0 0 0 0) : ACell), (.inr (.int, own_b m 0 0 0 1) : ACell), (.inr (.int, [.int 1]) : ACell), (.inr (.int, [.int 1, .int 0, .int 0, .int 0]) : ACell), (.inr (.int, [.int 2]) : ACell)] (Is (some (.int 1)) [(.inl (0, [.ref 1, .ref 2, .ref 3, .ref 4, .ref 5]) : ACell), (.inr (.int, own_a 1 2) : ACell), (.inr (.int, own_a 1 2) : ACell), (.inr (.int, own_b m 0 1 2 0) : ACell), (.inr (.int, own_b m 0 0 0 0) : ACell), (.inr (.int, own_b m 0 0 0 1) : ACell), (.inr (.int, [.int 1]) : ACell), (.inr (.int, [.int 1, .int 0, .int 0, .int 0]) : ACell), (.inr (.int, [.int 2]) : ACell), (.inr (.int, [.int 2, .int 0, .int 0, .int 0]) : ACell)]) := by
  refine e4 ?_
  refine s4_0 ?_
  refine s4_1 9 4 (by decide) rfl rfl ?_
  refine s4_3 rfl ?_
  refine s4_5 ?_
  refine s4_6 rfl ?_
  refine s4_8 ?_
  refine s4_9 ?_
  refine s4_10 (fun _ => ?_) (fun h => absurd h (by decide))
  refine s4_27 ?_
  refine s4_28 ?_
  refine s4_29 (fun _ => ?_) (fun h => absurd h (by decide))
  refine s4_46 ?_
  refine s4_47 ?_
  refine s4_48 (fun h => absurd h (by decide)) (fun _ => ?_)
  refine s4_51 ?_
  refine s4_53 (fun h => absurd h (by decide)) (fun _ => ?_)
  refine s4_56 ?_
  refine s4_58 ?_
  refine s4_60 ?_
  refine s4_61 0 rfl (by decide) rfl ?_
  refine s4_62 ?_
  refine s4_65 ?_
  refine s4_67 (fun _ => ?_) (fun h => absurd h (by decide))
  refine s4_84 ?_
  refine s4_85k 1 rfl rfl ?_
  refine s4_86 ?_
  refine s4_88 (fun h => absurd h (by decide)) (fun _ => ?_)
  refine s4_91 ?_
  refine s4_93 ?_
  refine s4_94 (fun h => absurd h (by decide)) (fun _ => ?_)
  refine s4_97 ?_
  refine s4_98 ?_
  refine s4_99 0 rfl (by decide) rfl ?_
  refine s4_100 ?_
  refine s4_102 ?_
  refine s4_103 0 rfl (by decide) rfl ?_
  refine s4_104 (fun h => absurd h (by decide)) (fun _ => ?_)
  refine s4_107 ?_
  refine s4_109 ?_
  refine s4_110 (fun _ => ?_) (fun h => absurd h (by decide))
  refine s4_123 ?_
  refine s4_125 ?_
  refine s4_126 (fun _ => ?_) (fun h => absurd h (by decide))
  refine s4_139 ?_
  refine s4_141 ?_
  refine s4_142 (fun _ => ?_) (fun h => absurd h (by decide))
  refine s4_155 ?_
  refine s4_156 ?_
  exact s4_160 ⟨rfl, rfl⟩
theorem own_r67 {m : Nat} : M5 ⟨0, 0, 0, 0⟩ [.ref 0, .int 3] [(.inl (0, [.ref 1, .ref 2, .ref 3, .ref 4, .ref 5]) : ACell), (.inr (.int, own_a 3 0) : ACell), (.inr (.int, own_a 1 0) : ACell), (.inr (.int, own_b m 0 1 0 1) : ACell), (.inr (.int, own_b m 0 3 0 0) : ACell), (.inr (.int, own_b m 0 0 0 1) : ACell)] (Is none [(.inl (0, [.ref 1, .ref 2, .ref 3, .ref 4, .ref 5]) : ACell), (.inr (.int, own_a 1 0) : ACell), (.inr (.int, own_a 1 0) : ACell), (.inr (.int, own_b m 0 1 0 0) : ACell), (.inr (.int, own_b m 0 0 0 0) : ACell), (.inr (.int, own_b m 0 0 0 1) : ACell)]) := by
  refine e5 ?_
  refine s5_0 ?_
  refine s5_1 rfl ?_
  refine s5_4 ?_
  refine s5_5 3 rfl (by decide) rfl ?_
  refine s5_6 rfl ?_
  refine s5_7 ?_
  refine s5_8 rfl ?_
  refine s5_11 ?_
  refine s5_12 3 rfl (by decide) rfl ?_
  refine s5_13 (fun h => absurd h (by decide)) (fun _ => ?_)
  refine s5_16 ?_
  refine s5_17 rfl ?_
  refine s5_20 ?_
  refine s5_21 ?_
  refine s5_22 rfl ?_
  refine s5_25 ?_
  refine s5_26 3 rfl (by decide) rfl ?_
  refine s5_27 1 rfl (by decide) rfl ?_
  refine s5_28 ?_
  refine s5_48 ?_
  refine s5_49 rfl ?_
  refine s5_52 ?_
  refine s5_53 3 rfl (by decide) rfl ?_
  refine s5_54 (fun _ => ?_) (fun h => absurd h (by decide))
  refine s5_72 ?_
  refine s5_73 rfl ?_
  refine s5_76 ?_
  refine s5_77 rfl ?_
  refine s5_80 ?_
  refine s5_81 3 rfl (by decide) rfl ?_
  refine s5_82 ?_
  refine s5_83 rfl ?_
  refine s5_86 ?_
  refine s5_87 3 rfl (by decide) rfl ?_
  refine s5_88 1 rfl (by decide) rfl ?_
  refine s5_89 ?_
  refine s5_90 rfl ?_
  refine s5_93 ?_
  refine s5_94 ?_
  refine s5_95 3 rfl (by decide) rfl ?_
  exact s5_96 ⟨rfl, rfl⟩
theorem own_r68 {m : Nat} : M3 ⟨0, 1, 1, 0⟩ [.ref 0, .int 1] [(.inl (0, [.ref 1, .ref 2, .ref 3, .ref 4, .ref 5]) : ACell), (.inr (.int, own_a 1 0) : ACell), (.inr (.int, own_a 1 0) : ACell), (.inr (.int, own_b m 0 1 0 0) : ACell), (.inr (.int, own_b m 0 0 0 0) : ACell), (.inr (.int, own_b m 0 0 0 1) : ACell)] (Is (some (.ref 6)) [(.inl (0, [.ref 1, .ref 2, .ref 3, .ref 4, .ref 5]) : ACell), (.inr (.int, own_a 1 0) : ACell), (.inr (.int, own_a 1 0) : ACell), (.inr (.int, own_b m 0 1 0 0) : ACell), (.inr (.int, own_b m 0 0 0 0) : ACell), (.inr (.int, own_b m 0 0 0 1) : ACell), (.inr (.int, [.int 1]) : ACell)]) := by
  refine e3 ?_
  refine s3_0 ?_
  refine s3_1 rfl ?_
  refine s3_2 ?_
  refine s3_3 rfl ?_
  refine s3_6 ?_
  refine s3_7 1 rfl (by decide) rfl ?_
  refine s3_8 rfl ?_
  refine s3_9 ?_
  refine s3_10 (fun h => absurd h (by decide)) (fun _ => ?_)
  refine s3_13 ?_
  refine s3_16 ?_
  refine s3_17 rfl ?_
  refine s3_20 ?_
  refine s3_21 1 rfl (by decide) rfl ?_
  refine s3_22 rfl ?_
  refine s3_23 ?_
  refine s3_9 ?_
  refine s3_10 (fun _ => ?_) (fun h => absurd h (by decide))
  refine s3_26 ?_
  refine s3_27 6 1 (by decide) rfl rfl ?_
  refine s3_29 rfl ?_
  refine s3_30 ?_
  refine s3_31 rfl ?_
  refine s3_33 ?_
  refine s3_34 rfl ?_
  refine s3_37 ?_
  refine s3_38 1 rfl (by decide) rfl ?_
  refine s3_39 rfl ?_
  refine s3_41 ?_
  refine s3_43 (fun h => absurd h (by decide)) (fun _ => ?_)
  refine s3_46 ?_
  refine s3_47 ?_
  refine s3_49 ?_
  refine s3_51 0 rfl (by decide) rfl ?_
  refine s3_52 ?_
  refine s3_55 ?_
  refine s3_56 rfl ?_
  refine s3_59 ?_
  refine s3_61 1 rfl (by decide) rfl ?_
  refine s3_62 rfl ?_
  refine s3_64 ?_
  refine s3_41 ?_
  refine s3_43 (fun _ => ?_) (fun h => absurd h (by decide))
  refine s3_67 ?_
  exact s3_68 ⟨rfl, rfl⟩
theorem own_r69 {m : Nat} : M4 ⟨0, 1, 4, 0⟩ [.ref 6, .int 1, .int 1, .int 2, .int 1, .int 0, .int 1, .int 0] [(.inl (0, [.ref 1, .ref 2, .ref 3, .ref 4, .ref 5]) : ACell), (.inr (.int, own_a 1 0) : ACell), (.inr (.int, own_a 1 0) : ACell), (.inr (.int, own_b m 0 1 0 0) : ACell), (.inr (.int, own_b m 0 0 0 0) : ACell), (.inr (.int, own_b m 0 0 0 1) : ACell), (.inr (.int, [.int 1]) : ACell)] (Is (some (.int 1)) [(.inl (0, [.ref 1, .ref 2, .ref 3, .ref 4, .ref 5]) : ACell), (.inr (.int, own_a 1 0) : ACell), (.inr (.int, own_a 1 0) : ACell), (.inr (.int, own_b m 0 1 0 0) : ACell), (.inr (.int, own_b m 0 0 0 0) : ACell), (.inr (.int, own_b m 0 0 0 1) : ACell), (.inr (.int, [.int 1]) : ACell), (.inr (.int, [.int 1, .int 0, .int 0, .int 0]) : ACell)]) := by
  refine e4 ?_
  refine s4_0 ?_
  refine s4_1 7 4 (by decide) rfl rfl ?_
  refine s4_3 rfl ?_
  refine s4_5 ?_
  refine s4_6 rfl ?_
  refine s4_8 ?_
  refine s4_9 ?_
  refine s4_10 (fun h => absurd h (by decide)) (fun _ => ?_)
  refine s4_13 ?_
  refine s4_15 (fun _ => ?_) (fun h => absurd h (by decide))
  refine s4_27 ?_
  refine s4_28 ?_
  refine s4_29 (fun h => absurd h (by decide)) (fun _ => ?_)
  refine s4_32 ?_
  refine s4_34 (fun h => absurd h (by decide)) (fun _ => ?_)
  refine s4_37 ?_
  refine s4_39 ?_
  refine s4_41 ?_
  refine s4_42 0 rfl (by decide) rfl ?_
  refine s4_43 ?_
  refine s4_46 ?_
  refine s4_47 ?_
  refine s4_48 (fun _ => ?_) (fun h => absurd h (by decide))
  refine s4_65 ?_
  refine s4_67 (fun _ => ?_) (fun h => absurd h (by decide))
  refine s4_84 ?_
  refine s4_85k 1 rfl rfl ?_
  refine s4_86 ?_
  refine s4_88 (fun h => absurd h (by decide)) (fun _ => ?_)
  refine s4_91 ?_
  refine s4_93 ?_
  refine s4_94 (fun h => absurd h (by decide)) (fun _ => ?_)
  refine s4_97 ?_
  refine s4_98 ?_
  refine s4_99 0 rfl (by decide) rfl ?_
  refine s4_100 ?_
  refine s4_102 ?_
  refine s4_103 0 rfl (by decide) rfl ?_
  refine s4_104 (fun h => absurd h (by decide)) (fun _ => ?_)
  refine s4_107 ?_
  refine s4_109 ?_
  refine s4_110 (fun _ => ?_) (fun h => absurd h (by decide))
  refine s4_123 ?_
  refine s4_125 ?_
  refine s4_126 (fun _ => ?_) (fun h => absurd h (by decide))
  refine s4_139 ?_
  refine s4_141 ?_
  refine s4_142 (fun _ => ?_) (fun h => absurd h (by decide))
  refine s4_155 ?_
  refine s4_156 ?_
  exact s4_160 ⟨rfl, rfl⟩
theorem own_r70 {m : Nat} : M3 ⟨0, 1, 0, 0⟩ [.ref 0, .int 2] [(.inl (0, [.ref 1, .ref 2, .ref 3, .ref 4, .ref 5]) : ACell), (.inr (.int, own_a 1 0) : ACell), (.inr (.int, own_a 1 0) : ACell), (.inr (.int, own_b m 0 1 0 0) : ACell), (.inr (.int, own_b m 0 0 0 0) : ACell), (.inr (.int, own_b m 0 0 0 1) : ACell), (.inr (.int, [.int 1]) : ACell), (.inr (.int, [.int 1, .int 0, .int 0, .int 0]) : ACell)] (Is (some (.ref 8)) [(.inl (0, [.ref 1, .ref 2, .ref 3, .ref 4, .ref 5]) : ACell), (.inr (.int, own_a 1 0) : ACell), (.inr (.int, own_a 1 0) : ACell), (.inr (.int, own_b m 0 1 0 0) : ACell), (.inr (.int, own_b m 0 0 0 0) : ACell), (.inr (.int, own_b m 0 0 0 1) : ACell), (.inr (.int, [.int 1]) : ACell), (.inr (.int, [.int 1, .int 0, .int 0, .int 0]) : ACell), (.inr (.int, []) : ACell)]) := by
  refine e3 ?_
  refine s3_0 ?_
  refine s3_1 rfl ?_
  refine s3_2 ?_
  refine s3_3 rfl ?_
  refine s3_6 ?_
  refine s3_7 2 rfl (by decide) rfl ?_
  refine s3_8 rfl ?_
  refine s3_9 ?_
  refine s3_10 (fun _ => ?_) (fun h => absurd h (by decide))
  refine s3_26 ?_
  refine s3_27 8 0 (by decide) rfl rfl ?_
  refine s3_29 rfl ?_
  refine s3_30 ?_
  refine s3_31 rfl ?_
  refine s3_33 ?_
  refine s3_34 rfl ?_
  refine s3_37 ?_
  refine s3_38 2 rfl (by decide) rfl ?_
  refine s3_39 rfl ?_
  refine s3_41 ?_
  refine s3_43 (fun _ => ?_) (fun h => absurd h (by decide))
  refine s3_67 ?_
  exact s3_68 ⟨rfl, rfl⟩
theorem own_r71 {m : Nat} : M4 ⟨0, 1, 4, 0⟩ [.ref 8, .int 2, .int 1, .int 2, .int 1, .int 0, .int 1, .int 0] [(.inl (0, [.ref 1, .ref 2, .ref 3, .ref 4, .ref 5]) : ACell), (.inr (.int, own_a 1 0) : ACell), (.inr (.int, own_a 1 0) : ACell), (.inr (.int, own_b m 0 1 0 0) : ACell), (.inr (.int, own_b m 0 0 0 0) : ACell), (.inr (.int, own_b m 0 0 0 1) : ACell), (.inr (.int, [.int 1]) : ACell), (.inr (.int, [.int 1, .int 0, .int 0, .int 0]) : ACell), (.inr (.int, []) : ACell)] (Is (some (.int 1)) [(.inl (0, [.ref 1, .ref 2, .ref 3, .ref 4, .ref 5]) : ACell), (.inr (.int, own_a 1 0) : ACell), (.inr (.int, own_a 1 0) : ACell), (.inr (.int, own_b m 0 1 0 0) : ACell), (.inr (.int, own_b m 0 0 0 0) : ACell), (.inr (.int, own_b m 0 0 0 1) : ACell), (.inr (.int, [.int 1]) : ACell), (.inr (.int, [.int 1, .int 0, .int 0, .int 0]) : ACell), (.inr (.int, []) : ACell), (.inr (.int, [.int 0, .int 0, .int 0, .int 0]) : ACell)]) := by
  refine e4 ?_
  refine s4_0 ?_
  refine s4_1 9 4 (by decide) rfl rfl ?_
  refine s4_3 rfl ?_
  refine s4_5 ?_
  refine s4_6 rfl ?_
  refine s4_8 ?_
  refine s4_9 ?_
  refine s4_10 (fun _ => ?_) (fun h => absurd h (by decide))
  refine s4_27 ?_
  refine s4_28 ?_
  refine s4_29 (fun _ => ?_) (fun h => absurd h (by decide))
  refine s4_46 ?_
  refine s4_47 ?_
  refine s4_48 (fun h => absurd h (by decide)) (fun _ => ?_)
  refine s4_51 ?_
  refine s4_53 (fun _ => ?_) (fun h => absurd h (by decide))
  refine s4_65 ?_
  refine s4_67 (fun _ => ?_) (fun h => absurd h (by decide))
  refine s4_84 ?_
  refine s4_85k 0 rfl rfl ?_
  refine s4_86 ?_
  refine s4_88 (fun h => absurd h (by decide)) (fun _ => ?_)
  refine s4_91 ?_
  refine s4_93 ?_
  refine s4_94 (fun _ => ?_) (fun h => absurd h (by decide))
  refine s4_107 ?_
  refine s4_109 ?_
  refine s4_110 (fun _ => ?_) (fun h => absurd h (by decide))
  refine s4_123 ?_
  refine s4_125 ?_
  refine s4_126 (fun _ => ?_) (fun h => absurd h (by decide))
  refine s4_139 ?_
  refine s4_141 ?_
  refine s4_142 (fun _ => ?_) (fun h => absurd h (by decide))
  refine s4_155 ?_
  refine s4_156 ?_
  exact s4_160 ⟨rfl, rfl⟩
theorem own_r72 {m : Nat} : M5 ⟨0, 0, 0, 0⟩ [.ref 0, .int 1] [(.inl (0, [.ref 1, .ref 2, .ref 3, .ref 4, .ref 5]) : ACell), (.inr (.int, own_a 1 2) : ACell), (.inr (.int, own_a 1 2) : ACell), (.inr (.int, own_b m 0 1 2 0) : ACell), (.inr (.int, own_b m 0 0 0 0) : ACell), (.inr (.int, own_b m 0 0 0 1) : ACell)] (Is none [(.inl (0, [.ref 1, .ref 2, .ref 3, .ref 4, .ref 5]) : ACell), (.inr (.int, own_a 0 2) : ACell), (.inr (.int, own_a 0 2) : ACell), (.inr (.int, own_b m 0 0 2 0) : ACell), (.inr (.int, own_b m 0 0 0 0) : ACell), (.inr (.int, own_b m 0 0 0 1) : ACell)]) := by
  refine e5 ?_
  refine s5_0 ?_
  refine s5_1 rfl ?_
  refine s5_4 ?_
  refine s5_5 1 rfl (by decide) rfl ?_
  refine s5_6 rfl ?_
  refine s5_7 ?_
  refine s5_8 rfl ?_
  refine s5_11 ?_
  refine s5_12 1 rfl (by decide) rfl ?_
  refine s5_13 (fun h => absurd h (by decide)) (fun _ => ?_)
  refine s5_16 ?_
  refine s5_17 rfl ?_
  refine s5_20 ?_
  refine s5_21 ?_
  refine s5_22 rfl ?_
  refine s5_25 ?_
  refine s5_26 1 rfl (by decide) rfl ?_
  refine s5_27 1 rfl (by decide) rfl ?_
  refine s5_28 ?_
  refine s5_48 ?_
  refine s5_49 rfl ?_
  refine s5_52 ?_
  refine s5_53 1 rfl (by decide) rfl ?_
  refine s5_54 (fun h => absurd h (by decide)) (fun _ => ?_)
  refine s5_57 ?_
  refine s5_58 rfl ?_
  refine s5_61 ?_
  refine s5_62 ?_
  refine s5_63 rfl ?_
  refine s5_66 ?_
  refine s5_67 1 rfl (by decide) rfl ?_
  refine s5_68 1 rfl (by decide) rfl ?_
  refine s5_69 ?_
  refine s5_89 ?_
  refine s5_90 rfl ?_
  refine s5_93 ?_
  refine s5_94 ?_
  refine s5_95 1 rfl (by decide) rfl ?_
  exact s5_96 ⟨rfl, rfl⟩
theorem own_r73 {m : Nat} : M3 ⟨0, 1, 0, 0⟩ [.ref 0, .int 1] [(.inl (0, [.ref 1, .ref 2, .ref 3, .ref 4, .ref 5]) : ACell), (.inr (.int, own_a 0 2) : ACell), (.inr (.int, own_a 0 2) : ACell), (.inr (.int, own_b m 0 0 2 0) : ACell), (.inr (.int, own_b m 0 0 0 0) : ACell), (.inr (.int, own_b m 0 0 0 1) : ACell)] (Is (some (.ref 6)) [(.inl (0, [.ref 1, .ref 2, .ref 3, .ref 4, .ref 5]) : ACell), (.inr (.int, own_a 0 2) : ACell), (.inr (.int, own_a 0 2) : ACell), (.inr (.int, own_b m 0 0 2 0) : ACell), (.inr (.int, own_b m 0 0 0 0) : ACell), (.inr (.int, own_b m 0 0 0 1) : ACell), (.inr (.int, []) : ACell)]) := by
  refine e3 ?_
  refine s3_0 ?_
  refine s3_1 rfl ?_
  refine s3_2 ?_
  refine s3_3 rfl ?_
  refine s3_6 ?_
  refine s3_7 1 rfl (by decide) rfl ?_
  refine s3_8 rfl ?_
  refine s3_9 ?_
  refine s3_10 (fun _ => ?_) (fun h => absurd h (by decide))
  refine s3_26 ?_
  refine s3_27 6 0 (by decide) rfl rfl ?_
  refine s3_29 rfl ?_
  refine s3_30 ?_
  refine s3_31 rfl ?_
  refine s3_33 ?_
  refine s3_34 rfl ?_
  refine s3_37 ?_
  refine s3_38 1 rfl (by decide) rfl ?_
  refine s3_39 rfl ?_
  refine s3_41 ?_
  refine s3_43 (fun _ => ?_) (fun h => absurd h (by decide))
  refine s3_67 ?_
  exact s3_68 ⟨rfl, rfl⟩
theorem own_r74 {m : Nat} : M4 ⟨0, 1, 4, 0⟩ [.ref 6, .int 1, .int 1, .int 2, .int 1, .int 1, .int 0, .int 0] [(.inl (0, [.ref 1, .ref 2, .ref 3, .ref 4, .ref 5]) : ACell), (.inr (.int, own_a 0 2) : ACell), (.inr (.int, own_a 0 2) : ACell), (.inr (.int, own_b m 0 0 2 0) : ACell), (.inr (.int, own_b m 0 0 0 0) : ACell), (.inr (.int, own_b m 0 0 0 1) : ACell), (.inr (.int, []) : ACell)] (Is (some (.int 1)) [(.inl (0, [.ref 1, .ref 2, .ref 3, .ref 4, .ref 5]) : ACell), (.inr (.int, own_a 0 2) : ACell), (.inr (.int, own_a 0 2) : ACell), (.inr (.int, own_b m 0 0 2 0) : ACell), (.inr (.int, own_b m 0 0 0 0) : ACell), (.inr (.int, own_b m 0 0 0 1) : ACell), (.inr (.int, []) : ACell), (.inr (.int, [.int 0, .int 0, .int 0, .int 0]) : ACell)]) := by
  refine e4 ?_
  refine s4_0 ?_
  refine s4_1 7 4 (by decide) rfl rfl ?_
  refine s4_3 rfl ?_
  refine s4_5 ?_
  refine s4_6 rfl ?_
  refine s4_8 ?_
  refine s4_9 ?_
  refine s4_10 (fun h => absurd h (by decide)) (fun _ => ?_)
  refine s4_13 ?_
  refine s4_15 (fun _ => ?_) (fun h => absurd h (by decide))
  refine s4_27 ?_
  refine s4_28 ?_
  refine s4_29 (fun h => absurd h (by decide)) (fun _ => ?_)
  refine s4_32 ?_
  refine s4_34 (fun _ => ?_) (fun h => absurd h (by decide))
  refine s4_46 ?_
  refine s4_47 ?_
  refine s4_48 (fun _ => ?_) (fun h => absurd h (by decide))
  refine s4_65 ?_
  refine s4_67 (fun _ => ?_) (fun h => absurd h (by decide))
  refine s4_84 ?_
  refine s4_85k 0 rfl rfl ?_
  refine s4_86 ?_
  refine s4_88 (fun h => absurd h (by decide)) (fun _ => ?_)
  refine s4_91 ?_
  refine s4_93 ?_
  refine s4_94 (fun _ => ?_) (fun h => absurd h (by decide))
  refine s4_107 ?_
  refine s4_109 ?_
  refine s4_110 (fun _ => ?_) (fun h => absurd h (by decide))
  refine s4_123 ?_
  refine s4_125 ?_
  refine s4_126 (fun _ => ?_) (fun h => absurd h (by decide))
  refine s4_139 ?_
  refine s4_141 ?_
  refine s4_142 (fun _ => ?_) (fun h => absurd h (by decide))
  refine s4_155 ?_
  refine s4_156 ?_
  exact s4_160 ⟨rfl, rfl⟩
theorem own_r75 {m : Nat} : M3 ⟨0, 1, 1, 0⟩ [.ref 0, .int 2] [(.inl (0, [.ref 1, .ref 2, .ref 3, .ref 4, .ref 5]) : ACell), (.inr (.int, own_a 0 2) : ACell), (.inr (.int, own_a 0 2) : ACell), (.inr (.int, own_b m 0 0 2 0) : ACell), (.inr (.int, own_b m 0 0 0 0) : ACell), (.inr (.int, own_b m 0 0 0 1) : ACell), (.inr (.int, []) : ACell), (.inr (.int, [.int 0, .int 0, .int 0, .int 0]) : ACell)] (Is (some (.ref 8)) [(.inl (0, [.ref 1, .ref 2, .ref 3, .ref 4, .ref 5]) : ACell), (.inr (.int, own_a 0 2) : ACell), (.inr (.int, own_a 0 2) : ACell), (.inr (.int, own_b m 0 0 2 0) : ACell), (.inr (.int, own_b m 0 0 0 0) : ACell), (.inr (.int, own_b m 0 0 0 1) : ACell), (.inr (.int, []) : ACell), (.inr (.int, [.int 0, .int 0, .int 0, .int 0]) : ACell), (.inr (.int, [.int 2]) : ACell)]) := by
  refine e3 ?_
  refine s3_0 ?_
  refine s3_1 rfl ?_
  refine s3_2 ?_
  refine s3_3 rfl ?_
  refine s3_6 ?_
  refine s3_7 2 rfl (by decide) rfl ?_
  refine s3_8 rfl ?_
  refine s3_9 ?_
  refine s3_10 (fun h => absurd h (by decide)) (fun _ => ?_)
  refine s3_13 ?_
  refine s3_16 ?_
  refine s3_17 rfl ?_
  refine s3_20 ?_
  refine s3_21 2 rfl (by decide) rfl ?_
  refine s3_22 rfl ?_
  refine s3_23 ?_
  refine s3_9 ?_
  refine s3_10 (fun _ => ?_) (fun h => absurd h (by decide))
  refine s3_26 ?_
  refine s3_27 8 1 (by decide) rfl rfl ?_
  refine s3_29 rfl ?_
  refine s3_30 ?_
  refine s3_31 rfl ?_
  refine s3_33 ?_
  refine s3_34 rfl ?_
  refine s3_37 ?_
  refine s3_38 2 rfl (by decide) rfl ?_
  refine s3_39 rfl ?_
  refine s3_41 ?_
  refine s3_43 (fun h => absurd h (by decide)) (fun _ => ?_)
  refine s3_46 ?_
  refine s3_47 ?_
  refine s3_49 ?_
  refine s3_51 0 rfl (by decide) rfl ?_
  refine s3_52 ?_
  refine s3_55 ?_
  refine s3_56 rfl ?_
  refine s3_59 ?_
  refine s3_61 2 rfl (by decide) rfl ?_
  refine s3_62 rfl ?_
  refine s3_64 ?_
  refine s3_41 ?_
  refine s3_43 (fun _ => ?_) (fun h => absurd h (by decide))
  refine s3_67 ?_
  exact s3_68 ⟨rfl, rfl⟩
theorem own_r76 {m : Nat} : M4 ⟨0, 1, 4, 0⟩ [.ref 8, .int 2, .int 1, .int 2, .int 1, .int 1, .int 0, .int 0] [(.inl (0, [.ref 1, .ref 2, .ref 3, .ref 4, .ref 5]) : ACell), (.inr (.int, own_a 0 2) : ACell), (.inr (.int, own_a 0 2) : ACell), (.inr (.int, own_b m 0 0 2 0) : ACell), (.inr (.int, own_b m 0 0 0 0) : ACell), (.inr (.int, own_b m 0 0 0 1) : ACell), (.inr (.int, []) : ACell), (.inr (.int, [.int 0, .int 0, .int 0, .int 0]) : ACell), (.inr (.int, [.int 2]) : ACell)] (Is (some (.int 1)) [(.inl (0, [.ref 1, .ref 2, .ref 3, .ref 4, .ref 5]) : ACell), (.inr (.int, own_a 0 2) : ACell), (.inr (.int, own_a 0 2) : ACell), (.inr (.int, own_b m 0 0 2 0) : ACell), (.inr (.int, own_b m 0 0 0 0) : ACell), (.inr (.int, own_b m 0 0 0 1) : ACell), (.inr (.int, []) : ACell), (.inr (.int, [.int 0, .int 0, .int 0, .int 0]) : ACell), (.inr (.int, [.int 2]) : ACell), (.inr (.int, [.int 2, .int 0, .int 0, .int 0]) : ACell)]) := by
  refine e4 ?_
  refine s4_0 ?_
  refine s4_1 9 4 (by decide) rfl rfl ?_
  refine s4_3 rfl ?_
  refine s4_5 ?_
  refine s4_6 rfl ?_
  refine s4_8 ?_
  refine s4_9 ?_
  refine s4_10 (fun _ => ?_) (fun h => absurd h (by decide))
  refine s4_27 ?_
  refine s4_28 ?_
  refine s4_29 (fun _ => ?_) (fun h => absurd h (by decide))
  refine s4_46 ?_
  refine s4_47 ?_
  refine s4_48 (fun h => absurd h (by decide)) (fun _ => ?_)
  refine s4_51 ?_
  refine s4_53 (fun h => absurd h (by decide)) (fun _ => ?_)
  refine s4_56 ?_
  refine s4_58 ?_
  refine s4_60 ?_
  refine s4_61 0 rfl (by decide) rfl ?_
  refine s4_62 ?_
  refine s4_65 ?_
  refine s4_67 (fun _ => ?_) (fun h => absurd h (by decide))
  refine s4_84 ?_
  refine s4_85k 1 rfl rfl ?_
  refine s4_86 ?_
  refine s4_88 (fun h => absurd h (by decide)) (fun _ => ?_)
  refine s4_91 ?_
  refine s4_93 ?_
  refine s4_94 (fun h => absurd h (by decide)) (fun _ => ?_)
  refine s4_97 ?_
  refine s4_98 ?_
  refine s4_99 0 rfl (by decide) rfl ?_
  refine s4_100 ?_
  refine s4_102 ?_
  refine s4_103 0 rfl (by decide) rfl ?_
  refine s4_104 (fun h => absurd h (by decide)) (fun _ => ?_)
  refine s4_107 ?_
  refine s4_109 ?_
  refine s4_110 (fun _ => ?_) (fun h => absurd h (by decide))
  refine s4_123 ?_
  refine s4_125 ?_
  refine s4_126 (fun _ => ?_) (fun h => absurd h (by decide))
  refine s4_139 ?_
  refine s4_141 ?_
  refine s4_142 (fun _ => ?_) (fun h => absurd h (by decide))
  refine s4_155 ?_
  refine s4_156 ?_
  exact s4_160 ⟨rfl, rfl⟩
theorem own_r77 {m : Nat} : M5 ⟨0, 0, 0, 0⟩ [.ref 0, .int 1] [(.inl (0, [.ref 1, .ref 2, .ref 3, .ref 4, .ref 5]) : ACell), (.inr (.int, own_a 1 0) : ACell), (.inr (.int, own_a 1 0) : ACell), (.inr (.int, own_b m 0 1 0 0) : ACell), (.inr (.int, own_b m 0 0 0 0) : ACell), (.inr (.int, own_b m 0 0 0 1) : ACell)] (Is none [(.inl (0, [.ref 1, .ref 2, .ref 3, .ref 4, .ref 5]) : ACell), (.inr (.int, own_a 0 0) : ACell), (.inr (.int, own_a 0 0) : ACell), (.inr (.int, own_b m 0 0 0 0) : ACell), (.inr (.int, own_b m 0 0 0 0) : ACell), (.inr (.int, own_b m 0 0 0 1) : ACell)]) := by
  refine e5 ?_
  refine s5_0 ?_
  refine s5_1 rfl ?_
  refine s5_4 ?_
  refine s5_5 1 rfl (by decide) rfl ?_
  refine s5_6 rfl ?_
  refine s5_7 ?_
  refine s5_8 rfl ?_
  refine s5_11 ?_
  refine s5_12 1 rfl (by decide) rfl ?_
  refine s5_13 (fun h => absurd h (by decide)) (fun _ => ?_)
  refine s5_16 ?_
  refine s5_17 rfl ?_
  refine s5_20 ?_
  refine s5_21 ?_
  refine s5_22 rfl ?_
  refine s5_25 ?_
  refine s5_26 1 rfl (by decide) rfl ?_
  refine s5_27 1 rfl (by decide) rfl ?_
  refine s5_28 ?_
  refine s5_48 ?_
  refine s5_49 rfl ?_
  refine s5_52 ?_
  refine s5_53 1 rfl (by decide) rfl ?_
  refine s5_54 (fun h => absurd h (by decide)) (fun _ => ?_)
  refine s5_57 ?_
  refine s5_58 rfl ?_
  refine s5_61 ?_
  refine s5_62 ?_
  refine s5_63 rfl ?_
  refine s5_66 ?_
  refine s5_67 1 rfl (by decide) rfl ?_
  refine s5_68 1 rfl (by decide) rfl ?_
  refine s5_69 ?_
  refine s5_89 ?_
  refine s5_90 rfl ?_
  refine s5_93 ?_
  refine s5_94 ?_
  refine s5_95 1 rfl (by decide) rfl ?_
  exact s5_96 ⟨rfl, rfl⟩
theorem own_r78 {m : Nat} : M3 ⟨0, 1, 0, 0⟩ [.ref 0, .int 1] [(.inl (0, [.ref 1, .ref 2, .ref 3, .ref 4, .ref 5]) : ACell), (.inr (.int, own_a 0 0) : ACell), (.inr (.int, own_a 0 0) : ACell), (.inr (.int, own_b m 0 0 0 0) : ACell), (.inr (.int, own_b m 0 0 0 0) : ACell), (.inr (.int, own_b m 0 0 0 1) : ACell)] (Is (some (.ref 6)) [(.inl (0, [.ref 1, .ref 2, .ref 3, .ref 4, .ref 5]) : ACell), (.inr (.int, own_a 0 0) : ACell), (.inr (.int, own_a 0 0) : ACell), (.inr (.int, own_b m 0 0 0 0) : ACell), (.inr (.int, own_b m 0 0 0 0) : ACell), (.inr (.int, own_b m 0 0 0 1) : ACell), (.inr (.int, []) : ACell)]) := by
  refine e3 ?_
  refine s3_0 ?_
  refine s3_1 rfl ?_
  refine s3_2 ?_
  refine s3_3 rfl ?_
  refine s3_6 ?_
  refine s3_7 1 rfl (by decide) rfl ?_
  refine s3_8 rfl ?_
  refine s3_9 ?_
  refine s3_10 (fun _ => ?_) (fun h => absurd h (by decide))
  refine s3_26 ?_
  refine s3_27 6 0 (by decide) rfl rfl ?_
  refine s3_29 rfl ?_
  refine s3_30 ?_
  refine s3_31 rfl ?_
  refine s3_33 ?_
  refine s3_34 rfl ?_
  refine s3_37 ?_
  refine s3_38 1 rfl (by decide) rfl ?_
  refine s3_39 rfl ?_
  refine s3_41 ?_
  refine s3_43 (fun _ => ?_) (fun h => absurd h (by decide))
  refine s3_67 ?_
  exact s3_68 ⟨rfl, rfl⟩
theorem own_r79 {m : Nat} : M4 ⟨0, 1, 4, 0⟩ [.ref 6, .int 1, .int 1, .int 2, .int 1, .int 1, .int 1, .int 0] [(.inl (0, [.ref 1, .ref 2, .ref 3, .ref 4, .ref 5]) : ACell), (.inr (.int, own_a 0 0) : ACell), (.inr (.int, own_a 0 0) : ACell), (.inr (.int, own_b m 0 0 0 0) : ACell), (.inr (.int, own_b m 0 0 0 0) : ACell), (.inr (.int, own_b m 0 0 0 1) : ACell), (.inr (.int, []) : ACell)] (Is (some (.int 1)) [(.inl (0, [.ref 1, .ref 2, .ref 3, .ref 4, .ref 5]) : ACell), (.inr (.int, own_a 0 0) : ACell), (.inr (.int, own_a 0 0) : ACell), (.inr (.int, own_b m 0 0 0 0) : ACell), (.inr (.int, own_b m 0 0 0 0) : ACell), (.inr (.int, own_b m 0 0 0 1) : ACell), (.inr (.int, []) : ACell), (.inr (.int, [.int 0, .int 0, .int 0, .int 0]) : ACell)]) := by
  refine e4 ?_
  refine s4_0 ?_
  refine s4_1 7 4 (by decide) rfl rfl ?_
  refine s4_3 rfl ?_
  refine s4_5 ?_
  refine s4_6 rfl ?_
  refine s4_8 ?_
  refine s4_9 ?_
  refine s4_10 (fun h => absurd h (by decide)) (fun _ => ?_)
  refine s4_13 ?_
  refine s4_15 (fun _ => ?_) (fun h => absurd h (by decide))
  refine s4_27 ?_
  refine s4_28 ?_
  refine s4_29 (fun h => absurd h (by decide)) (fun _ => ?_)
  refine s4_32 ?_
  refine s4_34 (fun _ => ?_) (fun h => absurd h (by decide))
  refine s4_46 ?_
  refine s4_47 ?_
  refine s4_48 (fun _ => ?_) (fun h => absurd h (by decide))
  refine s4_65 ?_
  refine s4_67 (fun _ => ?_) (fun h => absurd h (by decide))
  refine s4_84 ?_
  refine s4_85k 0 rfl rfl ?_
  refine s4_86 ?_
  refine s4_88 (fun h => absurd h (by decide)) (fun _ => ?_)
  refine s4_91 ?_
  refine s4_93 ?_
  refine s4_94 (fun _ => ?_) (fun h => absurd h (by decide))
  refine s4_107 ?_
  refine s4_109 ?_
  refine s4_110 (fun _ => ?_) (fun h => absurd h (by decide))
  refine s4_123 ?_
  refine s4_125 ?_
  refine s4_126 (fun _ => ?_) (fun h => absurd h (by decide))
  refine s4_139 ?_
  refine s4_141 ?_
  refine s4_142 (fun _ => ?_) (fun h => absurd h (by decide))
  refine s4_155 ?_
  refine s4_156 ?_
  exact s4_160 ⟨rfl, rfl⟩
theorem own_r80 {m : Nat} : M3 ⟨0, 1, 0, 0⟩ [.ref 0, .int 2] [(.inl (0, [.ref 1, .ref 2, .ref 3, .ref 4, .ref 5]) : ACell), (.inr (.int, own_a 0 0) : ACell), (.inr (.int, own_a 0 0) : ACell), (.inr (.int, own_b m 0 0 0 0) : ACell), (.inr (.int, own_b m 0 0 0 0) : ACell), (.inr (.int, own_b m 0 0 0 1) : ACell), (.inr (.int, []) : ACell), (.inr (.int, [.int 0, .int 0, .int 0, .int 0]) : ACell)] (Is (some (.ref 8)) [(.inl (0, [.ref 1, .ref 2, .ref 3, .ref 4, .ref 5]) : ACell), (.inr (.int, own_a 0 0) : ACell), (.inr (.int, own_a 0 0) : ACell), (.inr (.int, own_b m 0 0 0 0) : ACell), (.inr (.int, own_b m 0 0 0 0) : ACell), (.inr (.int, own_b m 0 0 0 1) : ACell), (.inr (.int, []) : ACell), (.inr (.int, [.int 0, .int 0, .int 0, .int 0]) : ACell), (.inr (.int, []) : ACell)]) := by
  refine e3 ?_
  refine s3_0 ?_
  refine s3_1 rfl ?_
  refine s3_2 ?_
  refine s3_3 rfl ?_
  refine s3_6 ?_
  refine s3_7 2 rfl (by decide) rfl ?_
  refine s3_8 rfl ?_
  refine s3_9 ?_
  refine s3_10 (fun _ => ?_) (fun h => absurd h (by decide))
  refine s3_26 ?_
  refine s3_27 8 0 (by decide) rfl rfl ?_
  refine s3_29 rfl ?_
  refine s3_30 ?_
  refine s3_31 rfl ?_
  refine s3_33 ?_
  refine s3_34 rfl ?_
  refine s3_37 ?_
  refine s3_38 2 rfl (by decide) rfl ?_
  refine s3_39 rfl ?_
  refine s3_41 ?_
  refine s3_43 (fun _ => ?_) (fun h => absurd h (by decide))
  refine s3_67 ?_
  exact s3_68 ⟨rfl, rfl⟩
theorem own_r81 {m : Nat} : M4 ⟨0, 1, 4, 0⟩ [.ref 8, .int 2, .int 1, .int 2, .int 1, .int 1, .int 1, .int 0] [(.inl (0, [.ref 1, .ref 2, .ref 3, .ref 4, .ref 5]) : ACell), (.inr (.int, own_a 0 0) : ACell), (.inr (.int, own_a 0 0) : ACell), (.inr (.int, own_b m 0 0 0 0) : ACell), (.inr (.int, own_b m 0 0 0 0) : ACell), (.inr (.int, own_b m 0 0 0 1) : ACell), (.inr (.int, []) : ACell), (.inr (.int, [.int 0, .int 0, .int 0, .int 0]) : ACell), (.inr (.int, []) : ACell)] (Is (some (.int 1)) [(.inl (0, [.ref 1, .ref 2, .ref 3, .ref 4, .ref 5]) : ACell), (.inr (.int, own_a 0 0) : ACell), (.inr (.int, own_a 0 0) : ACell), (.inr (.int, own_b m 0 0 0 0) : ACell), (.inr (.int, own_b m 0 0 0 0) : ACell), (.inr (.int, own_b m 0 0 0 1) : ACell), (.inr (.int, []) : ACell), (.inr (.int, [.int 0, .int 0, .int 0, .int 0]) : ACell), (.inr (.int, []) : ACell), (.inr (.int, [.int 0, .int 0, .int 0, .int 0]) : ACell)]) := by
  refine e4 ?_
  refine s4_0 ?_
  refine s4_1 9 4 (by decide) rfl rfl ?_
  refine s4_3 rfl ?_
  refine s4_5 ?_
  refine s4_6 rfl ?_
  refine s4_8 ?_
  refine s4_9 ?_
  refine s4_10 (fun _ => ?_) (fun h => absurd h (by decide))
  refine s4_27 ?_
  refine s4_28 ?_
  refine s4_29 (fun _ => ?_) (fun h => absurd h (by decide))
  refine s4_46 ?_
  refine s4_47 ?_
  refine s4_48 (fun h => absurd h (by decide)) (fun _ => ?_)
  refine s4_51 ?_
  refine s4_53 (fun _ => ?_) (fun h => absurd h (by decide))
  refine s4_65 ?_
  refine s4_67 (fun _ => ?_) (fun h => absurd h (by decide))
  refine s4_84 ?_
  refine s4_85k 0 rfl rfl ?_
  refine s4_86 ?_
  refine s4_88 (fun h => absurd h (by decide)) (fun _ => ?_)
  refine s4_91 ?_
  refine s4_93 ?_
  refine s4_94 (fun _ => ?_) (fun h => absurd h (by decide))
  refine s4_107 ?_
  refine s4_109 ?_
  refine s4_110 (fun _ => ?_) (fun h => absurd h (by decide))
  refine s4_123 ?_
  refine s4_125 ?_
  refine s4_126 (fun _ => ?_) (fun h => absurd h (by decide))
  refine s4_139 ?_
  refine s4_141 ?_
  refine s4_142 (fun _ => ?_) (fun h => absurd h (by decide))
  refine s4_155 ?_
  refine s4_156 ?_
  exact s4_160 ⟨rfl, rfl⟩
theorem own_r82 {m : Nat} : M2 ⟨0, 0, 0, 0⟩ [.ref 0, .int 1, .int 1] [(.inl (0, [.ref 1, .ref 2, .ref 3, .ref 4, .ref 5]) : ACell), (.inr (.int, own_a 0 2) : ACell), (.inr (.int, own_a 0 2) : ACell), (.inr (.int, own_b m 0 0 2 0) : ACell), (.inr (.int, own_b m 0 0 0 0) : ACell), (.inr (.int, own_b m 0 0 0 1) : ACell)] (Is none [(.inl (0, [.ref 1, .ref 2, .ref 3, .ref 4, .ref 5]) : ACell), (.inr (.int, own_a 1 2) : ACell), (.inr (.int, own_a 1 2) : ACell), (.inr (.int, own_b m 0 1 2 0) : ACell), (.inr (.int, own_b m 0 0 0 0) : ACell), (.inr (.int, own_b m 0 0 0 1) : ACell)]) := by
  refine e2 ?_
  refine s2_0 ?_
  refine s2_1 ?_
  refine s2_2 rfl ?_
  refine s2_5k 16 rfl rfl ?_
  refine s2_6 (fun _ => ?_) (fun h => absurd h (by decide))
  refine s2_45 ?_
  refine s2_46 rfl ?_
  refine s2_49 ?_
  refine s2_50 ?_
  refine s2_51 1 rfl (by decide) rfl ?_
  refine s2_52 ?_
  refine s2_53 rfl ?_
  refine s2_56 ?_
  refine s2_57 ?_
  refine s2_58 rfl ?_
  refine s2_61 ?_
  refine s2_62 1 rfl (by decide) rfl ?_
  refine s2_63 1 rfl (by decide) rfl ?_
  refine s2_64 ?_
  refine s2_65 rfl ?_
  refine s2_68 ?_
  refine s2_69 ?_
  refine s2_70 1 rfl (by decide) rfl ?_
  refine s2_71 ?_
  refine s2_72 rfl ?_
  refine s2_75 ?_
  refine s2_76 1 rfl (by decide) rfl ?_
  refine s2_77 (fun h => absurd h (by decide)) (fun _ => ?_)
  refine s2_80 ?_
  refine s2_81 rfl ?_
  refine s2_84 ?_
  refine s2_85 ?_
  refine s2_86 1 rfl (by decide) rfl ?_
  refine s2_87 ?_
  refine s2_102 ?_
  refine s2_103 rfl ?_
  refine s2_106 ?_
  refine s2_107 ?_
  refine s2_108 1 rfl (by decide) rfl ?_
  exact s2_109 ⟨rfl, rfl⟩
theorem own_r83 {m : Nat} : M4 ⟨0, 1, 4, 0⟩ [.ref 6, .int 1, .int 1, .int 2, .int 1, .int 1, .int 0, .int 1] [(.inl (0, [.ref 1, .ref 2, .ref 3, .ref 4, .ref 5]) : ACell), (.inr (.int, own_a 1 2) : ACell), (.inr (.int, own_a 1 2) : ACell), (.inr (.int, own_b m 0 1 2 0) : ACell), (.inr (.int, own_b m 0 0 0 0) : ACell), (.inr (.int, own_b m 0 0 0 1) : ACell), (.inr (.int, [.int 1]) : ACell)] (Is (some (.int 1)) [(.inl (0, [.ref 1, .ref 2, .ref 3, .ref 4, .ref 5]) : ACell), (.inr (.int, own_a 1 2) : ACell), (.inr (.int, own_a 1 2) : ACell), (.inr (.int, own_b m 0 1 2 0) : ACell), (.inr (.int, own_b m 0 0 0 0) : ACell), (.inr (.int, own_b m 0 0 0 1) : ACell), (.inr (.int, [.int 1]) : ACell), (.inr (.int, [.int 1, .int 0, .int 0, .int 0]) : ACell)]) := by
  refine e4 ?_
  refine s4_0 ?_
  refine s4_1 7 4 (by decide) rfl rfl ?_
  refine s4_3 rfl ?_
  refine s4_5 ?_
  refine s4_6 rfl ?_
  refine s4_8 ?_
  refine s4_9 ?_
  refine s4_10 (fun h => absurd h (by decide)) (fun _ => ?_)
  refine s4_13 ?_
  refine s4_15 (fun _ => ?_) (fun h => absurd h (by decide))
  refine s4_27 ?_
  refine s4_28 ?_
  refine s4_29 (fun h => absurd h (by decide)) (fun _ => ?_)
  refine s4_32 ?_
  refine s4_34 (fun _ => ?_) (fun h => absurd h (by decide))
  refine s4_46 ?_
  refine s4_47 ?_
  refine s4_48 (fun _ => ?_) (fun h => absurd h (by decide))
  refine s4_65 ?_
  refine s4_67 (fun h => absurd h (by decide)) (fun _ => ?_)
  refine s4_70 ?_
  refine s4_71 ?_
  refine s4_72 (fun h => absurd h (by decide)) (fun _ => ?_)
  refine s4_75 ?_
  refine s4_77 ?_
  refine s4_79 ?_
  refine s4_80 0 rfl (by decide) rfl ?_
  refine s4_81 ?_
  refine s4_84 ?_
  refine s4_85k 1 rfl rfl ?_
  refine s4_86 ?_
  refine s4_88 (fun h => absurd h (by decide)) (fun _ => ?_)
  refine s4_91 ?_
  refine s4_93 ?_
  refine s4_94 (fun h => absurd h (by decide)) (fun _ => ?_)
  refine s4_97 ?_
  refine s4_98 ?_
  refine s4_99 0 rfl (by decide) rfl ?_
  refine s4_100 ?_
  refine s4_102 ?_
  refine s4_103 0 rfl (by decide) rfl ?_
  refine s4_104 (fun h => absurd h (by decide)) (fun _ => ?_)
  refine s4_107 ?_
  refine s4_109 ?_
  refine s4_110 (fun _ => ?_) (fun h => absurd h (by decide))
  refine s4_123 ?_
  refine s4_125 ?_
  refine s4_126 (fun _ => ?_) (fun h => absurd h (by decide))
  refine s4_139 ?_
  refine s4_141 ?_
  refine s4_142 (fun _ => ?_) (fun h => absurd h (by decide))
  refine s4_155 ?_
  refine s4_156 ?_
  exact s4_160 ⟨rfl, rfl⟩
theorem own_r84 {m : Nat} : M4 ⟨0, 1, 4, 0⟩ [.ref 8, .int 2, .int 1, .int 2, .int 1, .int 1, .int 0, .int 1] [(.inl (0, [.ref 1, .ref 2, .ref 3, .ref 4, .ref 5]) : ACell), (.inr (.int, own_a 1 2) : ACell), (.inr (.int, own_a 1 2) : ACell), (.inr (.int, own_b m 0 1 2 0) : ACell), (.inr (.int, own_b m 0 0 0 0) : ACell), (.inr (.int, own_b m 0 0 0 1) : ACell), (.inr (.int, [.int 1]) : ACell), (.inr (.int, [.int 1, .int 0, .int 0, .int 0]) : ACell), (.inr (.int, [.int 2]) : ACell)] (Is (some (.int 1)) [(.inl (0, [.ref 1, .ref 2, .ref 3, .ref 4, .ref 5]) : ACell), (.inr (.int, own_a 1 2) : ACell), (.inr (.int, own_a 1 2) : ACell), (.inr (.int, own_b m 0 1 2 0) : ACell), (.inr (.int, own_b m 0 0 0 0) : ACell), (.inr (.int, own_b m 0 0 0 1) : ACell), (.inr (.int, [.int 1]) : ACell), (.inr (.int, [.int 1, .int 0, .int 0, .int 0]) : ACell), (.inr (.int, [.int 2]) : ACell), (.inr (.int, [.int 2, .int 0, .int 0, .int 0]) : ACell)]) := by
  refine e4 ?_
  refine s4_0 ?_
  refine s4_1 9 4 (by decide) rfl rfl ?_
  refine s4_3 rfl ?_
  refine s4_5 ?_
  refine s4_6 rfl ?_
  refine s4_8 ?_
  refine s4_9 ?_
  refine s4_10 (fun _ => ?_) (fun h => absurd h (by decide))
  refine s4_27 ?_
  refine s4_28 ?_
  refine s4_29 (fun _ => ?_) (fun h => absurd h (by decide))
  refine s4_46 ?_
  refine s4_47 ?_
  refine s4_48 (fun h => absurd h (by decide)) (fun _ => ?_)
  refine s4_51 ?_
  refine s4_53 (fun h => absurd h (by decide)) (fun _ => ?_)
  refine s4_56 ?_
  refine s4_58 ?_
  refine s4_60 ?_
  refine s4_61 0 rfl (by decide) rfl ?_
  refine s4_62 ?_
  refine s4_65 ?_
  refine s4_67 (fun h => absurd h (by decide)) (fun _ => ?_)
  refine s4_70 ?_
  refine s4_71 ?_
  refine s4_72 (fun _ => ?_) (fun h => absurd h (by decide))
  refine s4_84 ?_
  refine s4_85k 1 rfl rfl ?_
  refine s4_86 ?_
  refine s4_88 (fun h => absurd h (by decide)) (fun _ => ?_)
  refine s4_91 ?_
  refine s4_93 ?_
  refine s4_94 (fun h => absurd h (by decide)) (fun _ => ?_)
  refine s4_97 ?_
  refine s4_98 ?_
  refine s4_99 0 rfl (by decide) rfl ?_
  refine s4_100 ?_
  refine s4_102 ?_
  refine s4_103 0 rfl (by decide) rfl ?_
  refine s4_104 (fun h => absurd h (by decide)) (fun _ => ?_)
  refine s4_107 ?_
  refine s4_109 ?_
  refine s4_110 (fun _ => ?_) (fun h => absurd h (by decide))
  refine s4_123 ?_
  refine s4_125 ?_
  refine s4_126 (fun _ => ?_) (fun h => absurd h (by decide))
  refine s4_139 ?_
  refine s4_141 ?_
  refine s4_142 (fun _ => ?_) (fun h => absurd h (by decide))
  refine s4_155 ?_
  refine s4_156 ?_
  exact s4_160 ⟨rfl, rfl⟩
theorem own_r85 {m : Nat} : M2 ⟨0, 0, 0, 0⟩ [.ref 0, .int 1, .int 1] [(.inl (0, [.ref 1, .ref 2, .ref 3, .ref 4, .ref 5]) : ACell), (.inr (.int, own_a 0 0) : ACell), (.inr (.int, own_a 0 0) : ACell), (.inr (.int, own_b m 0 0 0 0) : ACell), (.inr (.int, own_b m 0 0 0 0) : ACell), (.inr (.int, own_b m 0 0 0 1) : ACell)] (Is none [(.inl (0, [.ref 1, .ref 2, .ref 3, .ref 4, .ref 5]) : ACell), (.inr (.int, own_a 1 0) : ACell), (.inr (.int, own_a 1 0) : ACell), (.inr (.int, own_b m 0 1 0 0) : ACell), (.inr (.int, own_b m 0 0 0 0) : ACell), (.inr (.int, own_b m 0 0 0 1) : ACell)]) := by
  refine e2 ?_
  refine s2_0 ?_
  refine s2_1 ?_
  refine s2_2 rfl ?_
  refine s2_5k 16 rfl rfl ?_
  refine s2_6 (fun _ => ?_) (fun h => absurd h (by decide))
  refine s2_45 ?_
  refine s2_46 rfl ?_
  refine s2_49 ?_
  refine s2_50 ?_
  refine s2_51 1 rfl (by decide) rfl ?_
  refine s2_52 ?_
  refine s2_53 rfl ?_
  refine s2_56 ?_
  refine s2_57 ?_
  refine s2_58 rfl ?_
  refine s2_61 ?_
  refine s2_62 1 rfl (by decide) rfl ?_
  refine s2_63 1 rfl (by decide) rfl ?_
  refine s2_64 ?_
  refine s2_65 rfl ?_
  refine s2_68 ?_
  refine s2_69 ?_
  refine s2_70 1 rfl (by decide) rfl ?_
  refine s2_71 ?_
  refine s2_72 rfl ?_
  refine s2_75 ?_
  refine s2_76 1 rfl (by decide) rfl ?_
  refine s2_77 (fun h => absurd h (by decide)) (fun _ => ?_)
  refine s2_80 ?_
  refine s2_81 rfl ?_
  refine s2_84 ?_
  refine s2_85 ?_
  refine s2_86 1 rfl (by decide) rfl ?_
  refine s2_87 ?_
  refine s2_102 ?_
  refine s2_103 rfl ?_
  refine s2_106 ?_
  refine s2_107 ?_
  refine s2_108 1 rfl (by decide) rfl ?_
  exact s2_109 ⟨rfl, rfl⟩
theorem own_r86 {m : Nat} : M4 ⟨0, 1, 4, 0⟩ [.ref 6, .int 1, .int 1, .int 2, .int 1, .int 1, .int 1, .int 1] [(.inl (0, [.ref 1, .ref 2, .ref 3, .ref 4, .ref 5]) : ACell), (.inr (.int, own_a 1 0) : ACell), (.inr (.int, own_a 1 0) : ACell), (.inr (.int, own_b m 0 1 0 0) : ACell), (.inr (.int, own_b m 0 0 0 0) : ACell), (.inr (.int, own_b m 0 0 0 1) : ACell), (.inr (.int, [.int 1]) : ACell)] (Is (some (.int 1)) [(.inl (0, [.ref 1, .ref 2, .ref 3, .ref 4, .ref 5]) : ACell), (.inr (.int, own_a 1 0) : ACell), (.inr (.int, own_a 1 0) : ACell), (.inr (.int, own_b m 0 1 0 0) : ACell), (.inr (.int, own_b m 0 0 0 0) : ACell), (.inr (.int, own_b m 0 0 0 1) : ACell), (.inr (.int, [.int 1]) : ACell), (.inr (.int, [.int 1, .int 0, .int 0, .int 0]) : ACell)]) := by
  refine e4 ?_
  refine s4_0 ?_
  refine s4_1 7 4 (by decide) rfl rfl ?_
  refine s4_3 rfl ?_
  refine s4_5 ?_
  refine s4_6 rfl ?_
  refine s4_8 ?_
  refine s4_9 ?_
  refine s4_10 (fun h => absurd h (by decide)) (fun _ => ?_)
  refine s4_13 ?_
  refine s4_15 (fun _ => ?_) (fun h => absurd h (by decide))
  refine s4_27 ?_
  refine s4_28 ?_
  refine s4_29 (fun h => absurd h (by decide)) (fun _ => ?_)
  refine s4_32 ?_
  refine s4_34 (fun _ => ?_) (fun h => absurd h (by decide))
  refine s4_46 ?_
  refine s4_47 ?_
  refine s4_48 (fun _ => ?_) (fun h => absurd h (by decide))
  refine s4_65 ?_
  refine s4_67 (fun h => absurd h (by decide)) (fun _ => ?_)
  refine s4_70 ?_
  refine s4_71 ?_
  refine s4_72 (fun h => absurd h (by decide)) (fun _ => ?_)
  refine s4_75 ?_
  refine s4_77 ?_
  refine s4_79 ?_
  refine s4_80 0 rfl (by decide) rfl ?_
  refine s4_81 ?_
  refine s4_84 ?_
  refine s4_85k 1 rfl rfl ?_
  refine s4_86 ?_
  refine s4_88 (fun h => absurd h (by decide)) (fun _ => ?_)
  refine s4_91 ?_
  refine s4_93 ?_
  refine s4_94 (fun h => absurd h (by decide)) (fun _ => ?_)
  refine s4_97 ?_
  refine s4_98 ?_
  refine s4_99 0 rfl (by decide) rfl ?_
  refine s4_100 ?_
  refine s4_102 ?_
  refine s4_103 0 rfl (by decide) rfl ?_
  refine s4_104 (fun h => absurd h (by decide)) (fun _ => ?_)
  refine s4_107 ?_
  refine s4_109 ?_
  refine s4_110 (fun _ => ?_) (fun h => absurd h (by decide))
  refine s4_123 ?_
  refine s4_125 ?_
  refine s4_126 (fun _ => ?_) (fun h => absurd h (by decide))
  refine s4_139 ?_
  refine s4_141 ?_
  refine s4_142 (fun _ => ?_) (fun h => absurd h (by decide))
  refine s4_155 ?_
  refine s4_156 ?_
  exact s4_160 ⟨rfl, rfl⟩
theorem own_r87 {m : Nat} : M4 ⟨0, 1, 4, 0⟩ [.ref 8, .int 2, .int 1, .int 2, .int 1, .int 1, .int 1, .int 1] [(.inl (0, [.ref 1, .ref 2, .ref 3, .ref 4, .ref 5]) : ACell), (.inr (.int, own_a 1 0) : ACell), (.inr (.int, own_a 1 0) : ACell), (.inr (.int, own_b m 0 1 0 0) : ACell), (.inr (.int, own_b m 0 0 0 0) : ACell), (.inr (.int, own_b m 0 0 0 1) : ACell), (.inr (.int, [.int 1]) : ACell), (.inr (.int, [.int 1, .int 0, .int 0, .int 0]) : ACell), (.inr (.int, []) : ACell)] (Is (some (.int 1)) [(.inl (0, [.ref 1, .ref 2, .ref 3, .ref 4, .ref 5]) : ACell), (.inr (.int, own_a 1 0) : ACell), (.inr (.int, own_a 1 0) : ACell), (.inr (.int, own_b m 0 1 0 0) : ACell), (.inr (.int, own_b m 0 0 0 0) : ACell), (.inr (.int, own_b m 0 0 0 1) : ACell), (.inr (.int, [.int 1]) : ACell), (.inr (.int, [.int 1, .int 0, .int 0, .int 0]) : ACell), (.inr (.int, []) : ACell), (.inr (.int, [.int 0, .int 0, .int 0, .int 0]) : ACell)]) := by
  refine e4 ?_
  refine s4_0 ?_
  refine s4_1 9 4 (by decide) rfl rfl ?_
  refine s4_3 rfl ?_
  refine s4_5 ?_
  refine s4_6 rfl ?_
  refine s4_8 ?_
  refine s4_9 ?_
  refine s4_10 (fun _ => ?_) (fun h => absurd h (by decide))
  refine s4_27 ?_
  refine s4_28 ?_
  refine s4_29 (fun _ => ?_) (fun h => absurd h (by decide))
  refine s4_46 ?_
  refine s4_47 ?_
  refine s4_48 (fun h => absurd h (by decide)) (fun _ => ?_)
  refine s4_51 ?_
  refine s4_53 (fun _ => ?_) (fun h => absurd h (by decide))
  refine s4_65 ?_
  refine s4_67 (fun h => absurd h (by decide)) (fun _ => ?_)
  refine s4_70 ?_
  refine s4_71 ?_
  refine s4_72 (fun _ => ?_) (fun h => absurd h (by decide))
  refine s4_84 ?_
  refine s4_85k 0 rfl rfl ?_
  refine s4_86 ?_
  refine s4_88 (fun h => absurd h (by decide)) (fun _ => ?_)
  refine s4_91 ?_
  refine s4_93 ?_
  refine s4_94 (fun _ => ?_) (fun h => absurd h (by decide))
  refine s4_107 ?_
  refine s4_109 ?_
  refine s4_110 (fun _ => ?_) (fun h => absurd h (by decide))
  refine s4_123 ?_
  refine s4_125 ?_
  refine s4_126 (fun _ => ?_) (fun h => absurd h (by decide))
  refine s4_139 ?_
  refine s4_141 ?_
  refine s4_142 (fun _ => ?_) (fun h => absurd h (by decide))
  refine s4_155 ?_
  refine s4_156 ?_
  exact s4_160 ⟨rfl, rfl⟩
theorem own_r88 {m : Nat} : M2 ⟨0, 0, 0, 0⟩ [.ref 0, .int 1, .int 2] [(.inl (0, [.ref 1, .ref 2, .ref 3, .ref 4, .ref 5]) : ACell), (.inr (.int, own_a 3 0) : ACell), (.inr (.int, own_a 3 0) : ACell), (.inr (.int, own_b m 0 0 0 1) : ACell), (.inr (.int, own_b m 0 0 0 0) : ACell), (.inr (.int, own_b m 0 0 0 0) : ACell)] (Is none [(.inl (0, [.ref 1, .ref 2, .ref 3, .ref 4, .ref 5]) : ACell), (.inr (.int, own_a 3 1) : ACell), (.inr (.int, own_a 3 1) : ACell), (.inr (.int, own_b m 0 2 0 1) : ACell), (.inr (.int, own_b m 0 0 0 0) : ACell), (.inr (.int, own_b m 0 0 0 0) : ACell)]) := by
  refine e2 ?_
  refine s2_0 ?_
  refine s2_1 ?_
  refine s2_2 rfl ?_
  refine s2_5k 16 rfl rfl ?_
  refine s2_6 (fun _ => ?_) (fun h => absurd h (by decide))
  refine s2_45 ?_
  refine s2_46 rfl ?_
  refine s2_49 ?_
  refine s2_50 ?_
  refine s2_51 1 rfl (by decide) rfl ?_
  refine s2_52 ?_
  refine s2_53 rfl ?_
  refine s2_56 ?_
  refine s2_57 ?_
  refine s2_58 rfl ?_
  refine s2_61 ?_
  refine s2_62 2 rfl (by decide) rfl ?_
  refine s2_63 1 rfl (by decide) rfl ?_
  refine s2_64 ?_
  refine s2_65 rfl ?_
  refine s2_68 ?_
  refine s2_69 ?_
  refine s2_70 1 rfl (by decide) rfl ?_
  refine s2_71 ?_
  refine s2_72 rfl ?_
  refine s2_75 ?_
  refine s2_76 2 rfl (by decide) rfl ?_
  refine s2_77 (fun h => absurd h (by decide)) (fun _ => ?_)
  refine s2_80 ?_
  refine s2_81 rfl ?_
  refine s2_84 ?_
  refine s2_85 ?_
  refine s2_86 2 rfl (by decide) rfl ?_
  refine s2_87 ?_
  refine s2_102 ?_
  refine s2_103 rfl ?_
  refine s2_106 ?_
  refine s2_107 ?_
  refine s2_108 2 rfl (by decide) rfl ?_
  exact s2_109 ⟨rfl, rfl⟩
theorem own_r89 {m : Nat} : M2 ⟨0, 0, 0, 0⟩ [.ref 0, .int 2, .int 1] [(.inl (0, [.ref 1, .ref 2, .ref 3, .ref 4, .ref 5]) : ACell), (.inr (.int, own_a 3 1) : ACell), (.inr (.int, own_a 3 1) : ACell), (.inr (.int, own_b m 0 2 0 1) : ACell), (.inr (.int, own_b m 0 0 0 0) : ACell), (.inr (.int, own_b m 0 0 0 0) : ACell)] (Is none [(.inl (0, [.ref 1, .ref 2, .ref 3, .ref 4, .ref 5]) : ACell), (.inr (.int, own_a 3 1) : ACell), (.inr (.int, own_a 2 1) : ACell), (.inr (.int, own_b m 0 2 1 1) : ACell), (.inr (.int, own_b m 0 0 3 0) : ACell), (.inr (.int, own_b m 0 0 0 2) : ACell)]) := by
  refine e2 ?_
  refine s2_0 ?_
  refine s2_1 ?_
  refine s2_2 rfl ?_
  refine s2_5k 16 rfl rfl ?_
  refine s2_6 (fun _ => ?_) (fun h => absurd h (by decide))
  refine s2_45 ?_
  refine s2_46 rfl ?_
  refine s2_49 ?_
  refine s2_50 ?_
  refine s2_51 2 rfl (by decide) rfl ?_
  refine s2_52 ?_
  refine s2_53 rfl ?_
  refine s2_56 ?_
  refine s2_57 ?_
  refine s2_58 rfl ?_
  refine s2_61 ?_
  refine s2_62 1 rfl (by decide) rfl ?_
  refine s2_63 2 rfl (by decide) rfl ?_
  refine s2_64 ?_
  refine s2_65 rfl ?_
  refine s2_68 ?_
  refine s2_69 ?_
  refine s2_70 2 rfl (by decide) rfl ?_
  refine s2_71 ?_
  refine s2_72 rfl ?_
  refine s2_75 ?_
  refine s2_76 1 rfl (by decide) rfl ?_
  refine s2_77 (fun _ => ?_) (fun h => absurd h (by decide))
  refine s2_90 ?_
  refine s2_91 rfl ?_
  refine s2_94 ?_
  refine s2_95 rfl ?_
  refine s2_98 ?_
  refine s2_99 1 rfl (by decide) rfl ?_
  refine s2_100 ?_
  refine s2_101 3 rfl (by decide) rfl ?_
  refine s2_102 ?_
  refine s2_103 rfl ?_
  refine s2_106 ?_
  refine s2_107 ?_
  refine s2_108 1 rfl (by decide) rfl ?_
  exact s2_109 ⟨rfl, rfl⟩
theorem own_r90 {m : Nat} : M3 ⟨0, 1, 2, 0⟩ [.ref 0, .int 1] [(.inl (0, [.ref 1, .ref 2, .ref 3, .ref 4, .ref 5]) : ACell), (.inr (.int, own_a 3 1) : ACell), (.inr (.int, own_a 2 1) : ACell), (.inr (.int, own_b m 0 2 1 1) : ACell), (.inr (.int, own_b m 0 0 3 0) : ACell), (.inr (.int, own_b m 0 0 0 2) : ACell)] (Is (some (.ref 6)) [(.inl (0, [.ref 1, .ref 2, .ref 3, .ref 4, .ref 5]) : ACell), (.inr (.int, own_a 3 1) : ACell), (.inr (.int, own_a 2 1) : ACell), (.inr (.int, own_b m 0 2 1 1) : ACell), (.inr (.int, own_b m 0 0 3 0) : ACell), (.inr (.int, own_b m 0 0 0 2) : ACell), (.inr (.int, [.int 3, .int 2]) : ACell)]) := by
  refine e3 ?_
  refine s3_0 ?_
  refine s3_1 rfl ?_
  refine s3_2 ?_
  refine s3_3 rfl ?_
  refine s3_6 ?_
  refine s3_7 1 rfl (by decide) rfl ?_
  refine s3_8 rfl ?_
  refine s3_9 ?_
  refine s3_10 (fun h => absurd h (by decide)) (fun _ => ?_)
  refine s3_13 ?_
  refine s3_16 ?_
  refine s3_17 rfl ?_
  refine s3_20 ?_
  refine s3_21 3 rfl (by decide) rfl ?_
  refine s3_22 rfl ?_
  refine s3_23 ?_
  refine s3_9 ?_
  refine s3_10 (fun h => absurd h (by decide)) (fun _ => ?_)
  refine s3_13 ?_
  refine s3_16 ?_
  refine s3_17 rfl ?_
  refine s3_20 ?_
  refine s3_21 2 rfl (by decide) rfl ?_
  refine s3_22 rfl ?_
  refine s3_23 ?_
  refine s3_9 ?_
  refine s3_10 (fun _ => ?_) (fun h => absurd h (by decide))
  refine s3_26 ?_
  refine s3_27 6 2 (by decide) rfl rfl ?_
  refine s3_29 rfl ?_
  refine s3_30 ?_
  refine s3_31 rfl ?_
  refine s3_33 ?_
  refine s3_34 rfl ?_
  refine s3_37 ?_
  refine s3_38 1 rfl (by decide) rfl ?_
  refine s3_39 rfl ?_
  refine s3_41 ?_
  refine s3_43 (fun h => absurd h (by decide)) (fun _ => ?_)
  refine s3_46 ?_
  refine s3_47 ?_
  refine s3_49 ?_
  refine s3_51 0 rfl (by decide) rfl ?_
  refine s3_52 ?_
  refine s3_55 ?_
  refine s3_56 rfl ?_
  refine s3_59 ?_
  refine s3_61 3 rfl (by decide) rfl ?_
  refine s3_62 rfl ?_
  refine s3_64 ?_
  refine s3_41 ?_
  refine s3_43 (fun h => absurd h (by decide)) (fun _ => ?_)
  refine s3_46 ?_
  refine s3_47 ?_
  refine s3_49 ?_
  refine s3_51 1 rfl (by decide) rfl ?_
  refine s3_52 ?_
  refine s3_55 ?_
  refine s3_56 rfl ?_
  refine s3_59 ?_
  refine s3_61 2 rfl (by decide) rfl ?_
  refine s3_62 rfl ?_
  refine s3_64 ?_
  refine s3_41 ?_
  refine s3_43 (fun _ => ?_) (fun h => absurd h (by decide))
  refine s3_67 ?_
  exact s3_68 ⟨rfl, rfl⟩
theorem own_r91 {m : Nat} : M4 ⟨0, 1, 4, 0⟩ [.ref 6, .int 1, .int 2, .int 1, .int 0, .int 0, .int 0, .int 0] [(.inl (0, [.ref 1, .ref 2, .ref 3, .ref 4, .ref 5]) : ACell), (.inr (.int, own_a 3 1) : ACell), (.inr (.int, own_a 2 1) : ACell), (.inr (.int, own_b m 0 2 1 1) : ACell), (.inr (.int, own_b m 0 0 3 0) : ACell), (.inr (.int, own_b m 0 0 0 2) : ACell), (.inr (.int, [.int 3, .int 2]) : ACell)] (Is (some (.int 1)) [(.inl (0, [.ref 1, .ref 2, .ref 3, .ref 4, .ref 5]) : ACell), (.inr (.int, own_a 3 1) : ACell), (.inr (.int, own_a 2 1) : ACell), (.inr (.int, own_b m 0 2 1 1) : ACell), (.inr (.int, own_b m 0 0 3 0) : ACell), (.inr (.int, own_b m 0 0 0 2) : ACell), (.inr (.int, [.int 3, .int 2]) : ACell), (.inr (.int, [.int 3, .int 2, .int 0, .int 0]) : ACell)]) := by
  refine e4 ?_
  refine s4_0 ?_
  refine s4_1 7 4 (by decide) rfl rfl ?_
  refine s4_3 rfl ?_
  refine s4_5 ?_
  refine s4_6 rfl ?_
  refine s4_8 ?_
  refine s4_9 ?_
  refine s4_10 (fun h => absurd h (by decide)) (fun _ => ?_)
  refine s4_13 ?_
  refine s4_15 (fun h => absurd h (by decide)) (fun _ => ?_)
  refine s4_18 ?_
  refine s4_20 ?_
  refine s4_22 ?_
  refine s4_23 0 rfl (by decide) rfl ?_
  refine s4_24 ?_
  refine s4_27 ?_
  refine s4_28 ?_
  refine s4_29 (fun _ => ?_) (fun h => absurd h (by decide))
  refine s4_46 ?_
  refine s4_47 ?_
  refine s4_48 (fun h => absurd h (by decide)) (fun _ => ?_)
  refine s4_51 ?_
  refine s4_53 (fun h => absurd h (by decide)) (fun _ => ?_)
  refine s4_56 ?_
  refine s4_58 ?_
  refine s4_60 ?_
  refine s4_61 1 rfl (by decide) rfl ?_
  refine s4_62 ?_
  refine s4_65 ?_
  refine s4_67 (fun _ => ?_) (fun h => absurd h (by decide))
  refine s4_84 ?_
  refine s4_85k 2 rfl rfl ?_
  refine s4_86 ?_
  refine s4_88 (fun h => absurd h (by decide)) (fun _ => ?_)
  refine s4_91 ?_
  refine s4_93 ?_
  refine s4_94 (fun h => absurd h (by decide)) (fun _ => ?_)
  refine s4_97 ?_
  refine s4_98 ?_
  refine s4_99 0 rfl (by decide) rfl ?_
  refine s4_100 ?_
  refine s4_102 ?_
  refine s4_103 0 rfl (by decide) rfl ?_
  refine s4_104 (fun h => absurd h (by decide)) (fun _ => ?_)
  refine s4_107 ?_
  refine s4_109 ?_
  refine s4_110 (fun h => absurd h (by decide)) (fun _ => ?_)
  refine s4_113 ?_
  refine s4_114 ?_
  refine s4_115 1 rfl (by decide) rfl ?_
  refine s4_116 ?_
  refine s4_118 ?_
  refine s4_119 1 rfl (by decide) rfl ?_
  refine s4_120 (fun h => absurd h (by decide)) (fun _ => ?_)
  refine s4_123 ?_
  refine s4_125 ?_
  refine s4_126 (fun _ => ?_) (fun h => absurd h (by decide))
  refine s4_139 ?_
  refine s4_141 ?_
  refine s4_142 (fun _ => ?_) (fun h => absurd h (by decide))
  refine s4_155 ?_
  refine s4_156 ?_
  exact s4_160 ⟨rfl, rfl⟩
theorem own_r92 {m : Nat} : M3 ⟨0, 1, 1, 0⟩ [.ref 0, .int 2] [(.inl (0, [.ref 1, .ref 2, .ref 3, .ref 4, .ref 5]) : ACell), (.inr (.int, own_a 3 1) : ACell), (.inr (.int, own_a 2 1) : ACell), (.inr (.int, own_b m 0 2 1 1) : ACell), (.inr (.int, own_b m 0 0 3 0) : ACell), (.inr (.int, own_b m 0 0 0 2) : ACell), (.inr (.int, [.int 3, .int 2]) : ACell), (.inr (.int, [.int 3, .int 2, .int 0, .int 0]) : ACell)] (Is (some (.ref 8)) [(.inl (0, [.ref 1, .ref 2, .ref 3, .ref 4, .ref 5]) : ACell), (.inr (.int, own_a 3 1) : ACell), (.inr (.int, own_a 2 1) : ACell), (.inr (.int, own_b m 0 2 1 1) : ACell), (.inr (.int, own_b m 0 0 3 0) : ACell), (.inr (.int, own_b m 0 0 0 2) : ACell), (.inr (.int, [.int 3, .int 2]) : ACell), (.inr (.int, [.int 3, .int 2, .int 0, .int 0]) : ACell), (.inr (.int, [.int 1]) : ACell)]) := by
  refine e3 ?_
  refine s3_0 ?_
  refine s3_1 rfl ?_
  refine s3_2 ?_
  refine s3_3 rfl ?_
  refine s3_6 ?_
  refine s3_7 2 rfl (by decide) rfl ?_
  refine s3_8 rfl ?_
  refine s3_9 ?_
  refine s3_10 (fun h => absurd h (by decide)) (fun _ => ?_)
  refine s3_13 ?_
  refine s3_16 ?_
  refine s3_17 rfl ?_
  refine s3_20 ?_
  refine s3_21 1 rfl (by decide) rfl ?_
  refine s3_22 rfl ?_
  refine s3_23 ?_
  refine s3_9 ?_
  refine s3_10 (fun _ => ?_) (fun h => absurd h (by decide))
  refine s3_26 ?_
  refine s3_27 8 1 (by decide) rfl rfl ?_
  refine s3_29 rfl ?_
  refine s3_30 ?_
  refine s3_31 rfl ?_
  refine s3_33 ?_
  refine s3_34 rfl ?_
  refine s3_37 ?_
  refine s3_38 2 rfl (by decide) rfl ?_
  refine s3_39 rfl ?_
  refine s3_41 ?_
  refine s3_43 (fun h => absurd h (by decide)) (fun _ => ?_)
  refine s3_46 ?_
  refine s3_47 ?_
  refine s3_49 ?_
  refine s3_51 0 rfl (by decide) rfl ?_
  refine s3_52 ?_
  refine s3_55 ?_
  refine s3_56 rfl ?_
  refine s3_59 ?_
  refine s3_61 1 rfl (by decide) rfl ?_
  refine s3_62 rfl ?_
  refine s3_64 ?_
  refine s3_41 ?_
  refine s3_43 (fun _ => ?_) (fun h => absurd h (by decide))
  refine s3_67 ?_
  exact s3_68 ⟨rfl, rfl⟩
theorem own_r93 {m : Nat} : M4 ⟨0, 1, 4, 0⟩ [.ref 8, .int 2, .int 2, .int 1, .int 0, .int 0, .int 0, .int 0] [(.inl (0, [.ref 1, .ref 2, .ref 3, .ref 4, .ref 5]) : ACell), (.inr (.int, own_a 3 1) : ACell), (.inr (.int, own_a 2 1) : ACell), (.inr (.int, own_b m 0 2 1 1) : ACell), (.inr (.int, own_b m 0 0 3 0) : ACell), (.inr (.int, own_b m 0 0 0 2) : ACell), (.inr (.int, [.int 3, .int 2]) : ACell), (.inr (.int, [.int 3, .int 2, .int 0, .int 0]) : ACell), (.inr (.int, [.int 1]) : ACell)] (Is (some (.int 1)) [(.inl (0, [.ref 1, .ref 2, .ref 3, .ref 4, .ref 5]) : ACell), (.inr (.int, own_a 3 1) : ACell), (.inr (.int, own_a 2 1) : ACell), (.inr (.int, own_b m 0 2 1 1) : ACell), (.inr (.int, own_b m 0 0 3 0) : ACell), (.inr (.int, own_b m 0 0 0 2) : ACell), (.inr (.int, [.int 3, .int 2]) : ACell), (.inr (.int, [.int 3, .int 2, .int 0, .int 0]) : ACell), (.inr (.int, [.int 1]) : ACell), (.inr (.int, [.int 1, .int 0, .int 0, .int 0]) : ACell)]) := by
  refine e4 ?_
  refine s4_0 ?_
  refine s4_1 9 4 (by decide) rfl rfl ?_
  refine s4_3 rfl ?_
  refine s4_5 ?_
  refine s4_6 rfl ?_
  refine s4_8 ?_
  refine s4_9 ?_
  refine s4_10 (fun _ => ?_) (fun h => absurd h (by decide))
  refine s4_27 ?_
  refine s4_28 ?_
  refine s4_29 (fun h => absurd h (by decide)) (fun _ => ?_)
  refine s4_32 ?_
  refine s4_34 (fun h => absurd h (by decide)) (fun _ => ?_)
  refine s4_37 ?_
  refine s4_39 ?_
  refine s4_41 ?_
  refine s4_42 0 rfl (by decide) rfl ?_
  refine s4_43 ?_
  refine s4_46 ?_
  refine s4_47 ?_
  refine s4_48 (fun _ => ?_) (fun h => absurd h (by decide))
  refine s4_65 ?_
  refine s4_67 (fun _ => ?_) (fun h => absurd h (by decide))
  refine s4_84 ?_
  refine s4_85k 1 rfl rfl ?_
  refine s4_86 ?_
  refine s4_88 (fun h => absurd h (by decide)) (fun _ => ?_)
  refine s4_91 ?_
  refine s4_93 ?_
  refine s4_94 (fun h => absurd h (by decide)) (fun _ => ?_)
  refine s4_97 ?_
  refine s4_98 ?_
  refine s4_99 0 rfl (by decide) rfl ?_
  refine s4_100 ?_
  refine s4_102 ?_
  refine s4_103 0 rfl (by decide) rfl ?_
  refine s4_104 (fun h => absurd h (by decide)) (fun _ => ?_)
  refine s4_107 ?_
  refine s4_109 ?_
  refine s4_110 (fun _ => ?_) (fun h => absurd h (by decide))
  refine s4_123 ?_
  refine s4_125 ?_
  refine s4_126 (fun _ => ?_) (fun h => absurd h (by decide))
  refine s4_139 ?_
  refine s4_141 ?_
  refine s4_142 (fun _ => ?_) (fun h => absurd h (by decide))
  refine s4_155 ?_
  refine s4_156 ?_
  exact s4_160 ⟨rfl, rfl⟩
theorem own_r94 {m : Nat} : M5 ⟨0, 0, 0, 0⟩ [.ref 0, .int 2] [(.inl (0, [.ref 1, .ref 2, .ref 3, .ref 4, .ref 5]) : ACell), (.inr (.int, own_a 3 1) : ACell), (.inr (.int, own_a 2 1) : ACell), (.inr (.int, own_b m 0 2 1 1) : ACell), (.inr (.int, own_b m 0 0 3 0) : ACell), (.inr (.int, own_b m 0 0 0 2) : ACell)] (Is none [(.inl (0, [.ref 1, .ref 2, .ref 3, .ref 4, .ref 5]) : ACell), (.inr (.int, own_a 3 1) : ACell), (.inr (.int, own_a 3 1) : ACell), (.inr (.int, own_b m 0 2 0 1) : ACell), (.inr (.int, own_b m 0 0 3 0) : ACell), (.inr (.int, own_b m 0 0 0 0) : ACell)]) := by
  refine e5 ?_
  refine s5_0 ?_
  refine s5_1 rfl ?_
  refine s5_4 ?_
  refine s5_5 2 rfl (by decide) rfl ?_
  refine s5_6 rfl ?_
  refine s5_7 ?_
  refine s5_8 rfl ?_
  refine s5_11 ?_
  refine s5_12 2 rfl (by decide) rfl ?_
  refine s5_13 (fun _ => ?_) (fun h => absurd h (by decide))
  refine s5_31 ?_
  refine s5_32 rfl ?_
  refine s5_35 ?_
  refine s5_36 rfl ?_
  refine s5_39 ?_
  refine s5_40 2 rfl (by decide) rfl ?_
  refine s5_41 ?_
  refine s5_42 rfl ?_
  refine s5_45 ?_
  refine s5_46 2 rfl (by decide) rfl ?_
  refine s5_47 3 rfl (by decide) rfl ?_
  refine s5_48 ?_
  refine s5_49 rfl ?_
  refine s5_52 ?_
  refine s5_53 2 rfl (by decide) rfl ?_
  refine s5_54 (fun h => absurd h (by decide)) (fun _ => ?_)
  refine s5_57 ?_
  refine s5_58 rfl ?_
  refine s5_61 ?_
  refine s5_62 ?_
  refine s5_63 rfl ?_
  refine s5_66 ?_
  refine s5_67 2 rfl (by decide) rfl ?_
  refine s5_68 1 rfl (by decide) rfl ?_
  refine s5_69 ?_
  refine s5_89 ?_
  refine s5_90 rfl ?_
  refine s5_93 ?_
  refine s5_94 ?_
  refine s5_95 2 rfl (by decide) rfl ?_
  exact s5_96 ⟨rfl, rfl⟩
theorem own_r95 {m : Nat} : M3 ⟨0, 1, 1, 0⟩ [.ref 0, .int 1] [(.inl (0, [.ref 1, .ref 2, .ref 3, .ref 4, .ref 5]) : ACell), (.inr (.int, own_a 3 1) : ACell), (.inr (.int, own_a 3 1) : ACell), (.inr (.int, own_b m 0 2 0 1) : ACell), (.inr (.int, own_b m 0 0 3 0) : ACell), (.inr (.int, own_b m 0 0 0 0) : ACell)] (Is (some (.ref 6)) [(.inl (0, [.ref 1, .ref 2, .ref 3, .ref 4, .ref 5]) : ACell), (.inr (.int, own_a 3 1) : ACell), (.inr (.int, own_a 3 1) : ACell), (.inr (.int, own_b m 0 2 0 1) : ACell), (.inr (.int, own_b m 0 0 3 0) : ACell), (.inr (.int, own_b m 0 0 0 0) : ACell), (.inr (.int, [.int 3]) : ACell)]) := by
  refine e3 ?_
  refine s3_0 ?_
  refine s3_1 rfl ?_
  refine s3_2 ?_
  refine s3_3 rfl ?_
  refine s3_6 ?_
  refine s3_7 1 rfl (by decide) rfl ?_
  refine s3_8 rfl ?_
  refine s3_9 ?_
  refine s3_10 (fun h => absurd h (by decide)) (fun _ => ?_)
  refine s3_13 ?_
  refine s3_16 ?_
  refine s3_17 rfl ?_
  refine s3_20 ?_
  refine s3_21 3 rfl (by decide) rfl ?_
  refine s3_22 rfl ?_
  refine s3_23 ?_
  refine s3_9 ?_
  refine s3_10 (fun _ => ?_) (fun h => absurd h (by decide))
  refine s3_26 ?_
  refine s3_27 6 1 (by decide) rfl rfl ?_
  refine s3_29 rfl ?_
  refine s3_30 ?_
  refine s3_31 rfl ?_
  refine s3_33 ?_
  refine s3_34 rfl ?_
  refine s3_37 ?_
  refine s3_38 1 rfl (by decide) rfl ?_
  refine s3_39 rfl ?_
  refine s3_41 ?_
  refine s3_43 (fun h => absurd h (by decide)) (fun _ => ?_)
  refine s3_46 ?_
  refine s3_47 ?_
  refine s3_49 ?_
  refine s3_51 0 rfl (by decide) rfl ?_
  refine s3_52 ?_
  refine s3_55 ?_
  refine s3_56 rfl ?_
  refine s3_59 ?_
  refine s3_61 3 rfl (by decide) rfl ?_
  refine s3_62 rfl ?_
  refine s3_64 ?_
  refine s3_41 ?_
  refine s3_43 (fun _ => ?_) (fun h => absurd h (by decide))
  refine s3_67 ?_
  exact s3_68 ⟨rfl, rfl⟩
theorem own_r96 {m : Nat} : M4 ⟨0, 1, 4, 0⟩ [.ref 6, .int 1, .int 2, .int 1, .int 0, .int 0, .int 1, .int 0] [(.inl (0, [.ref 1, .ref 2, .ref 3, .ref 4, .ref 5]) : ACell), (.inr (.int, own_a 3 1) : ACell), (.inr (.int, own_a 3 1) : ACell), (.inr (.int, own_b m 0 2 0 1) : ACell), (.inr (.int, own_b m 0 0 3 0) : ACell), (.inr (.int, own_b m 0 0 0 0) : ACell), (.inr (.int, [.int 3]) : ACell)] (Is (some (.int 1)) [(.inl (0, [.ref 1, .ref 2, .ref 3, .ref 4, .ref 5]) : ACell), (.inr (.int, own_a 3 1) : ACell), (.inr (.int, own_a 3 1) : ACell), (.inr (.int, own_b m 0 2 0 1) : ACell), (.inr (.int, own_b m 0 0 3 0) : ACell), (.inr (.int, own_b m 0 0 0 0) : ACell), (.inr (.int, [.int 3]) : ACell), (.inr (.int, [.int 3, .int 0, .int 0, .int 0]) : ACell)]) := by
  refine e4 ?_
  refine s4_0 ?_
  refine s4_1 7 4 (by decide) rfl rfl ?_
  refine s4_3 rfl ?_
  refine s4_5 ?_
  refine s4_6 rfl ?_
  refine s4_8 ?_
  refine s4_9 ?_
  refine s4_10 (fun h => absurd h (by decide)) (fun _ => ?_)
  refine s4_13 ?_
  refine s4_15 (fun h => absurd h (by decide)) (fun _ => ?_)
  refine s4_18 ?_
  refine s4_20 ?_
  refine s4_22 ?_
  refine s4_23 0 rfl (by decide) rfl ?_
  refine s4_24 ?_
  refine s4_27 ?_
  refine s4_28 ?_
  refine s4_29 (fun _ => ?_) (fun h => absurd h (by decide))
  refine s4_46 ?_
  refine s4_47 ?_
  refine s4_48 (fun h => absurd h (by decide)) (fun _ => ?_)
  refine s4_51 ?_
  refine s4_53 (fun _ => ?_) (fun h => absurd h (by decide))
  refine s4_65 ?_
  refine s4_67 (fun _ => ?_) (fun h => absurd h (by decide))
  refine s4_84 ?_
  refine s4_85k 1 rfl rfl ?_
  refine s4_86 ?_
  refine s4_88 (fun h => absurd h (by decide)) (fun _ => ?_)
  refine s4_91 ?_
  refine s4_93 ?_
  refine s4_94 (fun h => absurd h (by decide)) (fun _ => ?_)
  refine s4_97 ?_
  refine s4_98 ?_
  refine s4_99 0 rfl (by decide) rfl ?_
  refine s4_100 ?_
  refine s4_102 ?_
  refine s4_103 0 rfl (by decide) rfl ?_
  refine s4_104 (fun h => absurd h (by decide)) (fun _ => ?_)
  refine s4_107 ?_
  refine s4_109 ?_
  refine s4_110 (fun _ => ?_) (fun h => absurd h (by decide))
  refine s4_123 ?_
  refine s4_125 ?_
  refine s4_126 (fun _ => ?_) (fun h => absurd h (by decide))
  refine s4_139 ?_
  refine s4_141 ?_
  refine s4_142 (fun _ => ?_) (fun h => absurd h (by decide))
  refine s4_155 ?_
  refine s4_156 ?_
  exact s4_160 ⟨rfl, rfl⟩
theorem own_r97 {m : Nat} : M3 ⟨0, 1, 1, 0⟩ [.ref 0, .int 2] [(.inl (0, [.ref 1, .ref 2, .ref 3, .ref 4, .ref 5]) : ACell), (.inr (.int, own_a 3 1) : ACell), (.inr (.int, own_a 3 1) : ACell), (.inr (.int, own_b m 0 2 0 1) : ACell), (.inr (.int, own_b m 0 0 3 0) : ACell), (.inr (.int, own_b m 0 0 0 0) : ACell), (.inr (.int, [.int 3]) : ACell), (.inr (.int, [.int 3, .int 0, .int 0, .int 0]) : ACell)] (Is (some (.ref 8)) [(.inl (0, [.ref 1, .ref 2, .ref 3, .ref 4, .ref 5]) : ACell), (.inr (.int, own_a 3 1) : ACell), (.inr (.int, own_a 3 1) : ACell), (.inr (.int, own_b m 0 2 0 1) : ACell), (.inr (.int, own_b m 0 0 3 0) : ACell), (.inr (.int, own_b m 0 0 0 0) : ACell), (.inr (.int, [.int 3]) : ACell), (.inr (.int, [.int 3, .int 0, .int 0, .int 0]) : ACell), (.inr (.int, [.int 1]) : ACell)]) := by
  refine e3 ?_
  refine s3_0 ?_
  refine s3_1 rfl ?_
  refine s3_2 ?_
  refine s3_3 rfl ?_
  refine s3_6 ?_
  refine s3_7 2 rfl (by decide) rfl ?_
  refine s3_8 rfl ?_
  refine s3_9 ?_
  refine s3_10 (fun h => absurd h (by decide)) (fun _ => ?_)
  refine s3_13 ?_
  refine s3_16 ?_
  refine s3_17 rfl ?_
  refine s3_20 ?_
  refine s3_21 1 rfl (by decide) rfl ?_
  refine s3_22 rfl ?_
  refine s3_23 ?_
  refine s3_9 ?_
  refine s3_10 (fun _ => ?_) (fun h => absurd h (by decide))
  refine s3_26 ?_
  refine s3_27 8 1 (by decide) rfl rfl ?_
  refine s3_29 rfl ?_
  refine s3_30 ?_
  refine s3_31 rfl ?_
  refine s3_33 ?_
  refine s3_34 rfl ?_
  refine s3_37 ?_
  refine s3_38 2 rfl (by decide) rfl ?_
  refine s3_39 rfl ?_
  refine s3_41 ?_
  refine s3_43 (fun h => absurd h (by decide)) (fun _ => ?_)
  refine s3_46 ?_
  refine s3_47 ?_
  refine s3_49 ?_
  refine s3_51 0 rfl (by decide) rfl ?_
  refine s3_52 ?_
  refine s3_55 ?_
  refine s3_56 rfl ?_
  refine s3_59 ?_
  refine s3_61 1 rfl (by decide) rfl ?_
  refine s3_62 rfl ?_
  refine s3_64 ?_
  refine s3_41 ?_
  refine s3_43 (fun _ => ?_) (fun h => absurd h (by decide))
  refine s3_67 ?_
  exact s3_68 ⟨rfl, rfl⟩
theorem own_r98 {m : Nat} : M4 ⟨0, 1, 4, 0⟩ [.ref 8, .int 2, .int 2, .int 1, .int 0, .int 0, .int 1, .int 0] [(.inl (0, [.ref 1, .ref 2, .ref 3, .ref 4, .ref 5]) : ACell), (.inr (.int, own_a 3 1) : ACell), (.inr (.int, own_a 3 1) : ACell), (.inr (.int, own_b m 0 2 0 1) : ACell), (.inr (.int, own_b m 0 0 3 0) : ACell), (.inr (.int, own_b m 0 0 0 0) : ACell), (.inr (.int, [.int 3]) : ACell), (.inr (.int, [.int 3, .int 0, .int 0, .int 0]) : ACell), (.inr (.int, [.int 1]) : ACell)] (Is (some (.int 1)) [(.inl (0, [.ref 1, .ref 2, .ref 3, .ref 4, .ref 5]) : ACell), (.inr (.int, own_a 3 1) : ACell), (.inr (.int, own_a 3 1) : ACell), (.inr (.int, own_b m 0 2 0 1) : ACell), (.inr (.int, own_b m 0 0 3 0) : ACell), (.inr (.int, own_b m 0 0 0 0) : ACell), (.inr (.int, [.int 3]) : ACell), (.inr (.int, [.int 3, .int 0, .int 0, .int 0]) : ACell), (.inr (.int, [.int 1]) : ACell), (.inr (.int, [.int 1, .int 0, .int 0, .int 0]) : ACell)]) := by
  refine e4 ?_
  refine s4_0 ?_
  refine s4_1 9 4 (by decide) rfl rfl ?_
  refine s4_3 rfl ?_
  refine s4_5 ?_
  refine s4_6 rfl ?_
  refine s4_8 ?_
  refine s4_9 ?_
  refine s4_10 (fun _ => ?_) (fun h => absurd h (by decide))
  refine s4_27 ?_
  refine s4_28 ?_
  refine s4_29 (fun h => absurd h (by decide)) (fun _ => ?_)
  refine s4_32 ?_
  refine s4_34 (fun h => absurd h (by decide)) (fun _ => ?_)
  refine s4_37 ?_
  refine s4_39 ?_
  refine s4_41 ?_
  refine s4_42 0 rfl (by decide) rfl ?_
  refine s4_43 ?_
  refine s4_46 ?_
  refine s4_47 ?_
  refine s4_48 (fun _ => ?_) (fun h => absurd h (by decide))
  refine s4_65 ?_
  refine s4_67 (fun _ => ?_) (fun h => absurd h (by decide))
  refine s4_84 ?_
  refine s4_85k 1 rfl rfl ?_
  refine s4_86 ?_
  refine s4_88 (fun h => absurd h (by decide)) (fun _ => ?_)
  refine s4_91 ?_
  refine s4_93 ?_
  refine s4_94 (fun h => absurd h (by decide)) (fun _ => ?_)
  refine s4_97 ?_
  refine s4_98 ?_
  refine s4_99 0 rfl (by decide) rfl ?_
  refine s4_100 ?_
  refine s4_102 ?_
  refine s4_103 0 rfl (by decide) rfl ?_
  refine s4_104 (fun h => absurd h (by decide)) (fun _ => ?_)
  refine s4_107 ?_
  refine s4_109 ?_
  refine s4_110 (fun _ => ?_) (fun h => absurd h (by decide))
  refine s4_123 ?_
  refine s4_125 ?_
  refine s4_126 (fun _ => ?_) (fun h => absurd h (by decide))
  refine s4_139 ?_
  refine s4_141 ?_
  refine s4_142 (fun _ => ?_) (fun h => absurd h (by decide))
  refine s4_155 ?_
  refine s4_156 ?_
  exact s4_160 ⟨rfl, rfl⟩
theorem own_r99 {m : Nat} : M5 ⟨0, 0, 0, 0⟩ [.ref 0, .int 1] [(.inl (0, [.ref 1, .ref 2, .ref 3, .ref 4, .ref 5]) : ACell), (.inr (.int, own_a 3 1) : ACell), (.inr (.int, own_a 2 1) : ACell), (.inr (.int, own_b m 0 2 1 1) : ACell), (.inr (.int, own_b m 0 0 3 0) : ACell), (.inr (.int, own_b m 0 0 0 2) : ACell)] (Is none [(.inl (0, [.ref 1, .ref 2, .ref 3, .ref 4, .ref 5]) : ACell), (.inr (.int, own_a 3 0) : ACell), (.inr (.int, own_a 2 0) : ACell), (.inr (.int, own_b m 0 0 1 1) : ACell), (.inr (.int, own_b m 0 0 3 0) : ACell), (.inr (.int, own_b m 0 0 0 2) : ACell)]) := by
  refine e5 ?_
  refine s5_0 ?_
  refine s5_1 rfl ?_
  refine s5_4 ?_
  refine s5_5 1 rfl (by decide) rfl ?_
  refine s5_6 rfl ?_
  refine s5_7 ?_
  refine s5_8 rfl ?_
  refine s5_11 ?_
  refine s5_12 1 rfl (by decide) rfl ?_
  refine s5_13 (fun h => absurd h (by decide)) (fun _ => ?_)
  refine s5_16 ?_
  refine s5_17 rfl ?_
  refine s5_20 ?_
  refine s5_21 ?_
  refine s5_22 rfl ?_
  refine s5_25 ?_
  refine s5_26 1 rfl (by decide) rfl ?_
  refine s5_27 2 rfl (by decide) rfl ?_
  refine s5_28 ?_
  refine s5_48 ?_
  refine s5_49 rfl ?_
  refine s5_52 ?_
  refine s5_53 1 rfl (by decide) rfl ?_
  refine s5_54 (fun h => absurd h (by decide)) (fun _ => ?_)
  refine s5_57 ?_
  refine s5_58 rfl ?_
  refine s5_61 ?_
  refine s5_62 ?_
  refine s5_63 rfl ?_
  refine s5_66 ?_
  refine s5_67 1 rfl (by decide) rfl ?_
  refine s5_68 2 rfl (by decide) rfl ?_
  refine s5_69 ?_
  refine s5_89 ?_
  refine s5_90 rfl ?_
  refine s5_93 ?_
  refine s5_94 ?_
  refine s5_95 1 rfl (by decide) rfl ?_
  exact s5_96 ⟨rfl, rfl⟩
theorem own_r100 {m : Nat} : M3 ⟨0, 1, 2, 0⟩ [.ref 0, .int 1] [(.inl (0, [.ref 1, .ref 2, .ref 3, .ref 4, .ref 5]) : ACell), (.inr (.int, own_a 3 0) : ACell), (.inr (.int, own_a 2 0) : ACell), (.inr (.int, own_b m 0 0 1 1) : ACell), (.inr (.int, own_b m 0 0 3 0) : ACell), (.inr (.int, own_b m 0 0 0 2) : ACell)] (Is (some (.ref 6)) [(.inl (0, [.ref 1, .ref 2, .ref 3, .ref 4, .ref 5]) : ACell), (.inr (.int, own_a 3 0) : ACell), (.inr (.int, own_a 2 0) : ACell), (.inr (.int, own_b m 0 0 1 1) : ACell), (.inr (.int, own_b m 0 0 3 0) : ACell), (.inr (.int, own_b m 0 0 0 2) : ACell), (.inr (.int, [.int 3, .int 2]) : ACell)]) := by
  refine e3 ?_
  refine s3_0 ?_
  refine s3_1 rfl ?_
  refine s3_2 ?_
  refine s3_3 rfl ?_
  refine s3_6 ?_
  refine s3_7 1 rfl (by decide) rfl ?_
  refine s3_8 rfl ?_
  refine s3_9 ?_
  refine s3_10 (fun h => absurd h (by decide)) (fun _ => ?_)
  refine s3_13 ?_
  refine s3_16 ?_
  refine s3_17 rfl ?_
  refine s3_20 ?_
  refine s3_21 3 rfl (by decide) rfl ?_
  refine s3_22 rfl ?_
  refine s3_23 ?_
  refine s3_9 ?_
  refine s3_10 (fun h => absurd h (by decide)) (fun _ => ?_)
  refine s3_13 ?_
  refine s3_16 ?_
  refine s3_17 rfl ?_
  refine s3_20 ?_
  refine s3_21 2 rfl (by decide) rfl ?_
  refine s3_22 rfl ?_
  refine s3_23 ?_
  refine s3_9 ?_
  refine s3_10 (fun _ => ?_) (fun h => absurd h (by decide))
  refine s3_26 ?_
  refine s3_27 6 2 (by decide) rfl rfl ?_
  refine s3_29 rfl ?_
  refine s3_30 ?_
  refine s3_31 rfl ?_
  refine s3_33 ?_
  refine s3_34 rfl ?_
  refine s3_37 ?_
  refine s3_38 1 rfl (by decide) rfl ?_
  refine s3_39 rfl ?_
  refine s3_41 ?_
  refine s3_43 (fun h => absurd h (by decide)) (fun _ => ?_)
  refine s3_46 ?_
  refine s3_47 ?_
  refine s3_49 ?_
  refine s3_51 0 rfl (by decide) rfl ?_
  refine s3_52 ?_
  refine s3_55 ?_
  refine s3_56 rfl ?_
  refine s3_59 ?_
  refine s3_61 3 rfl (by decide) rfl ?_
  refine s3_62 rfl ?_
  refine s3_64 ?_
  refine s3_41 ?_
  refine s3_43 (fun h => absurd h (by decide)) (fun _ => ?_)
  refine s3_46 ?_
  refine s3_47 ?_
  refine s3_49 ?_
  refine s3_51 1 rfl (by decide) rfl ?_
  refine s3_52 ?_
  refine s3_55 ?_
  refine s3_56 rfl ?_
  refine s3_59 ?_
  refine s3_61 2 rfl (by decide) rfl ?_
  refine s3_62 rfl ?_
  refine s3_64 ?_
  refine s3_41 ?_
  refine s3_43 (fun _ => ?_) (fun h => absurd h (by decide))
  refine s3_67 ?_
  exact s3_68 ⟨rfl, rfl⟩
theorem own_r101 {m : Nat} : M4 ⟨0, 1, 4, 0⟩ [.ref 6, .int 1, .int 2, .int 1, .int 0, .int 1, .int 0, .int 0] [(.inl (0, [.ref 1, .ref 2, .ref 3, .ref 4, .ref 5]) : ACell), (.inr (.int, own_a 3 0) : ACell), (.inr (.int, own_a 2 0) : ACell), (.inr (.int, own_b m 0 0 1 1) : ACell), (.inr (.int, own_b m 0 0 3 0) : ACell), (.inr (.int, own_b m 0 0 0 2) : ACell), (.inr (.int, [.int 3, .int 2]) : ACell)] (Is (some (.int 1)) [(.inl (0, [.ref 1, .ref 2, .ref 3, .ref 4, .ref 5]) : ACell), (.inr (.int, own_a 3 0) : ACell), (.inr (.int, own_a 2 0) : ACell), (.inr (.int, own_b m 0 0 1 1) : ACell), (.inr (.int, own_b m 0 0 3 0) : ACell), (.inr (.int, own_b m 0 0 0 2) : ACell), (.inr (.int, [.int 3, .int 2]) : ACell), (.inr (.int, [.int 3, .int 2, .int 0, .int 0]) : ACell)]) := by
  refine e4 ?_
  refine s4_0 ?_
  refine s4_1 7 4 (by decide) rfl rfl ?_
  refine s4_3 rfl ?_
  refine s4_5 ?_
  refine s4_6 rfl ?_
  refine s4_8 ?_
  refine s4_9 ?_
  refine s4_10 (fun h => absurd h (by decide)) (fun _ => ?_)
  refine s4_13 ?_
  refine s4_15 (fun h => absurd h (by decide)) (fun _ => ?_)
  refine s4_18 ?_
  refine s4_20 ?_
  refine s4_22 ?_
  refine s4_23 0 rfl (by decide) rfl ?_
  refine s4_24 ?_
  refine s4_27 ?_
  refine s4_28 ?_
  refine s4_29 (fun _ => ?_) (fun h => absurd h (by decide))
  refine s4_46 ?_
  refine s4_47 ?_
  refine s4_48 (fun h => absurd h (by decide)) (fun _ => ?_)
  refine s4_51 ?_
  refine s4_53 (fun h => absurd h (by decide)) (fun _ => ?_)
  refine s4_56 ?_
  refine s4_58 ?_
  refine s4_60 ?_
  refine s4_61 1 rfl (by decide) rfl ?_
  refine s4_62 ?_
  refine s4_65 ?_
  refine s4_67 (fun _ => ?_) (fun h => absurd h (by decide))
  refine s4_84 ?_
  refine s4_85k 2 rfl rfl ?_
  refine s4_86 ?_
  refine s4_88 (fun h => absurd h (by decide)) (fun _ => ?_)
  refine s4_91 ?_
  refine s4_93 ?_
  refine s4_94 (fun h => absurd h (by decide)) (fun _ => ?_)
  refine s4_97 ?_
  refine s4_98 ?_
  refine s4_99 0 rfl (by decide) rfl ?_
  refine s4_100 ?_
  refine s4_102 ?_
  refine s4_103 0 rfl (by decide) rfl ?_
  refine s4_104 (fun h => absurd h (by decide)) (fun _ => ?_)
  refine s4_107 ?_
  refine s4_109 ?_
  refine s4_110 (fun h => absurd h (by decide)) (fun _ => ?_)
  refine s4_113 ?_
  refine s4_114 ?_
  refine s4_115 1 rfl (by decide) rfl ?_
  refine s4_116 ?_
  refine s4_118 ?_
  refine s4_119 1 rfl (by decide) rfl ?_
  refine s4_120 (fun h => absurd h (by decide)) (fun _ => ?_)
  refine s4_123 ?_
  refine s4_125 ?_
  refine s4_126 (fun _ => ?_) (fun h => absurd h (by decide))
  refine s4_139 ?_
  refine s4_141 ?_
  refine s4_142 (fun _ => ?_) (fun h => absurd h (by decide))
  refine s4_155 ?_
  refine s4_156 ?_
  exact s4_160 ⟨rfl, rfl⟩
theorem own_r102 {m : Nat} : M3 ⟨0, 1, 0, 0⟩ [.ref 0, .int 2] [(.inl (0, [.ref 1, .ref 2, .ref 3, .ref 4, .ref 5]) : ACell), (.inr (.int, own_a 3 0) : ACell), (.inr (.int, own_a 2 0) : ACell), (.inr (.int, own_b m 0 0 1 1) : ACell), (.inr (.int, own_b m 0 0 3 0) : ACell), (.inr (.int, own_b m 0 0 0 2) : ACell), (.inr (.int, [.int 3, .int 2]) : ACell), (.inr (.int, [.int 3, .int 2, .int 0, .int 0]) : ACell)] (Is (some (.ref 8)) [(.inl (0, [.ref 1, .ref 2, .ref 3, .ref 4, .ref 5]) : ACell), (.inr (.int, own_a 3 0) : ACell), (.inr (.int, own_a 2 0) : ACell), (.inr (.int, own_b m 0 0 1 1) : ACell), (.inr (.int, own_b m 0 0 3 0) : ACell), (.inr (.int, own_b m 0 0 0 2) : ACell), (.inr (.int, [.int 3, .int 2]) : ACell), (.inr (.int, [.int 3, .int 2, .int 0, .int 0]) : ACell), (.inr (.int, []) : ACell)]) := by
  refine e3 ?_
  refine s3_0 ?_
  refine s3_1 rfl ?_
  refine s3_2 ?_
  refine s3_3 rfl ?_
  refine s3_6 ?_
  refine s3_7 2 rfl (by decide) rfl ?_
  refine s3_8 rfl ?_
  refine s3_9 ?_
  refine s3_10 (fun _ => ?_) (fun h => absurd h (by decide))
  refine s3_26 ?_
  refine s3_27 8 0 (by decide) rfl rfl ?_
  refine s3_29 rfl ?_
  refine s3_30 ?_
  refine s3_31 rfl ?_
  refine s3_33 ?_
  refine s3_34 rfl ?_
  refine s3_37 ?_
  refine s3_38 2 rfl (by decide) rfl ?_
  refine s3_39 rfl ?_
  refine s3_41 ?_
  refine s3_43 (fun _ => ?_) (fun h => absurd h (by decide))
  refine s3_67 ?_
  exact s3_68 ⟨rfl, rfl⟩
theorem own_r103 {m : Nat} : M4 ⟨0, 1, 4, 0⟩ [.ref 8, .int 2, .int 2, .int 1, .int 0, .int 1, .int 0, .int 0] [(.inl (0, [.ref 1, .ref 2, .ref 3, .ref 4, .ref 5]) : ACell), (.inr (.int, own_a 3 0) : ACell), (.inr (.int, own_a 2 0) : ACell), (.inr (.int, own_b m 0 0 1 1) : ACell), (.inr (.int, own_b m 0 0 3 0) : ACell), (.inr (.int, own_b m 0 0 0 2) : ACell), (.inr (.int, [.int 3, .int 2]) : ACell), (.inr (.int, [.int 3, .int 2, .int 0, .int 0]) : ACell), (.inr (.int, []) : ACell)] (Is (some (.int 1)) [(.inl (0, [.ref 1, .ref 2, .ref 3, .ref 4, .ref 5]) : ACell), (.inr (.int, own_a 3 0) : ACell), (.inr (.int, own_a 2 0) : ACell), (.inr (.int, own_b m 0 0 1 1) : ACell), (.inr (.int, own_b m 0 0 3 0) : ACell), (.inr (.int, own_b m 0 0 0 2) : ACell), (.inr (.int, [.int 3, .int 2]) : ACell), (.inr (.int, [.int 3, .int 2, .int 0, .int 0]) : ACell), (.inr (.int, []) : ACell), (.inr (.int, [.int 0, .int 0, .int 0, .int 0]) : ACell)]) := by
  refine e4 ?_
  refine s4_0 ?_
  refine s4_1 9 4 (by decide) rfl rfl ?_
  refine s4_3 rfl ?_
  refine s4_5 ?_
  refine s4_6 rfl ?_
  refine s4_8 ?_
  refine s4_9 ?_
  refine s4_10 (fun _ => ?_) (fun h => absurd h (by decide))
  refine s4_27 ?_
  refine s4_28 ?_
  refine s4_29 (fun h => absurd h (by decide)) (fun _ => ?_)
  refine s4_32 ?_
  refine s4_34 (fun _ => ?_) (fun h => absurd h (by decide))
  refine s4_46 ?_
  refine s4_47 ?_
  refine s4_48 (fun _ => ?_) (fun h => absurd h (by decide))
  refine s4_65 ?_
  refine s4_67 (fun _ => ?_) (fun h => absurd h (by decide))
  refine s4_84 ?_
  refine s4_85k 0 rfl rfl ?_
  refine s4_86 ?_
  refine s4_88 (fun h => absurd h (by decide)) (fun _ => ?_)
  refine s4_91 ?_
  refine s4_93 ?_
  refine s4_94 (fun _ => ?_) (fun h => absurd h (by decide))
  refine s4_107 ?_
  refine s4_109 ?_
  refine s4_110 (fun _ => ?_) (fun h => absurd h (by decide))
  refine s4_123 ?_
  refine s4_125 ?_
  refine s4_126 (fun _ => ?_) (fun h => absurd h (by decide))
  refine s4_139 ?_
  refine s4_141 ?_
  refine s4_142 (fun _ => ?_) (fun h => absurd h (by decide))
  refine s4_155 ?_
  refine s4_156 ?_
  exact s4_160 ⟨rfl, rfl⟩
theorem own_r104 {m : Nat} : M5 ⟨0, 0, 0, 0⟩ [.ref 0, .int 1] [(.inl (0, [.ref 1, .ref 2, .ref 3, .ref 4, .ref 5]) : ACell), (.inr (.int, own_a 3 1) : ACell), (.inr (.int, own_a 3 1) : ACell), (.inr (.int, own_b m 0 2 0 1) : ACell), (.inr (.int, own_b m 0 0 3 0) : ACell), (.inr (.int, own_b m 0 0 0 0) : ACell)] (Is none [(.inl (0, [.ref 1, .ref 2, .ref 3, .ref 4, .ref 5]) : ACell), (.inr (.int, own_a 3 0) : ACell), (.inr (.int, own_a 3 0) : ACell), (.inr (.int, own_b m 0 0 0 1) : ACell), (.inr (.int, own_b m 0 0 3 0) : ACell), (.inr (.int, own_b m 0 0 0 0) : ACell)]) := by
  refine e5 ?_
  refine s5_0 ?_
  refine s5_1 rfl ?_
  refine s5_4 ?_
  refine s5_5 1 rfl (by decide) rfl ?_
  refine s5_6 rfl ?_
  refine s5_7 ?_
  refine s5_8 rfl ?_
  refine s5_11 ?_
  refine s5_12 1 rfl (by decide) rfl ?_
  refine s5_13 (fun h => absurd h (by decide)) (fun _ => ?_)
  refine s5_16 ?_
  refine s5_17 rfl ?_
  refine s5_20 ?_
  refine s5_21 ?_
  refine s5_22 rfl ?_
  refine s5_25 ?_
  refine s5_26 1 rfl (by decide) rfl ?_
  refine s5_27 2 rfl (by decide) rfl ?_
  refine s5_28 ?_
  refine s5_48 ?_
  refine s5_49 rfl ?_
  refine s5_52 ?_
  refine s5_53 1 rfl (by decide) rfl ?_
  refine s5_54 (fun h => absurd h (by decide)) (fun _ => ?_)
  refine s5_57 ?_
  refine s5_58 rfl ?_
  refine s5_61 ?_
  refine s5_62 ?_
  refine s5_63 rfl ?_
  refine s5_66 ?_
  refine s5_67 1 rfl (by decide) rfl ?_
  refine s5_68 2 rfl (by decide) rfl ?_
  refine s5_69 ?_
  refine s5_89 ?_
  refine s5_90 rfl ?_
  refine s5_93 ?_
  refine s5_94 ?_
  refine s5_95 1 rfl (by decide) rfl ?_
  exact s5_96 ⟨rfl, rfl⟩
theorem own_r105 {m : Nat} : M3 ⟨0, 1, 1, 0⟩ [.ref 0, .int 1] [(.inl (0, [.ref 1, .ref 2, .ref 3, .ref 4, .ref 5]) : ACell), (.inr (.int, own_a 3 0) : ACell), (.inr (.int, own_a 3 0) : ACell), (.inr (.int, own_b m 0 0 0 1) : ACell), (.inr (.int, own_b m 0 0 3 0) : ACell), (.inr (.int, own_b m 0 0 0 0) : ACell)] (Is (some (.ref 6)) [(.inl (0, [.ref 1, .ref 2, .ref 3, .ref 4, .ref 5]) : ACell), (.inr (.int, own_a 3 0) : ACell), (.inr (.int, own_a 3 0) : ACell), (.inr (.int, own_b m 0 0 0 1) : ACell), (.inr (.int, own_b m 0 0 3 0) : ACell), (.inr (.int, own_b m 0 0 0 0) : ACell), (.inr (.int, [.int 3]) : ACell)]) := by
  refine e3 ?_
  refine s3_0 ?_
  refine s3_1 rfl ?_
  refine s3_2 ?_
  refine s3_3 rfl ?_
  refine s3_6 ?_
  refine s3_7 1 rfl (by decide) rfl ?_
  refine s3_8 rfl ?_
  refine s3_9 ?_
  refine s3_10 (fun h => absurd h (by decide)) (fun _ => ?_)
  refine s3_13 ?_
  refine s3_16 ?_
  refine s3_17 rfl ?_
  refine s3_20 ?_
  refine s3_21 3 rfl (by decide) rfl ?_
  refine s3_22 rfl ?_
  refine s3_23 ?_
  refine s3_9 ?_
  refine s3_10 (fun _ => ?_) (fun h => absurd h (by decide))
  refine s3_26 ?_
  refine s3_27 6 1 (by decide) rfl rfl ?_
  refine s3_29 rfl ?_
  refine s3_30 ?_
  refine s3_31 rfl ?_
  refine s3_33 ?_
  refine s3_34 rfl ?_
  refine s3_37 ?_
  refine s3_38 1 rfl (by decide) rfl ?_
  refine s3_39 rfl ?_
  refine s3_41 ?_
  refine s3_43 (fun h => absurd h (by decide)) (fun _ => ?_)
  refine s3_46 ?_
  refine s3_47 ?_
  refine s3_49 ?_
  refine s3_51 0 rfl (by decide) rfl ?_
  refine s3_52 ?_
  refine s3_55 ?_
  refine s3_56 rfl ?_
  refine s3_59 ?_
  refine s3_61 3 rfl (by decide) rfl ?_
  refine s3_62 rfl ?_
  refine s3_64 ?_
  refine s3_41 ?_
  refine s3_43 (fun _ => ?_) (fun h => absurd h (by decide))
  refine s3_67 ?_
  exact s3_68 ⟨rfl, rfl⟩
theorem own_r106 {m : Nat} : M4 ⟨0, 1, 4, 0⟩ [.ref 6, .int 1, .int 2, .int 1, .int 0, .int 1, .int 1, .int 0] [(.inl (0, [.ref 1, .ref 2, .ref 3, .ref 4, .ref 5]) : ACell), (.inr (.int, own_a 3 0) : ACell), (.inr (.int, own_a 3 0) : ACell), (.inr (.int, own_b m 0 0 0 1) : ACell), (.inr (.int, own_b m 0 0 3 0) : ACell), (.inr (.int, own_b m 0 0 0 0) : ACell), (.inr (.int, [.int 3]) : ACell)] (Is (some (.int 1)) [(.inl (0, [.ref 1, .ref 2, .ref 3, .ref 4, .ref 5]) : ACell), (.inr (.int, own_a 3 0) : ACell), (.inr (.int, own_a 3 0) : ACell), (.inr (.int, own_b m 0 0 0 1) : ACell), (.inr (.int, own_b m 0 0 3 0) : ACell), (.inr (.int, own_b m 0 0 0 0) : ACell), (.inr (.int, [.int 3]) : ACell), (.inr (.int, [.int 3, .int 0, .int 0, .int 0]) : ACell)]) := by
  refine e4 ?_
  refine s4_0 ?_
  refine s4_1 7 4 (by decide) rfl rfl ?_
  refine s4_3 rfl ?_
  refine s4_5 ?_
  refine s4_6 rfl ?_
  refine s4_8 ?_
  refine s4_9 ?_
  refine s4_10 (fun h => absurd h (by decide)) (fun _ => ?_)
  refine s4_13 ?_
  refine s4_15 (fun h => absurd h (by decide)) (fun _ => ?_)
  refine s4_18 ?_
  refine s4_20 ?_
  refine s4_22 ?_
  refine s4_23 0 rfl (by decide) rfl ?_
  refine s4_24 ?_
  refine s4_27 ?_
  refine s4_28 ?_
  refine s4_29 (fun _ => ?_) (fun h => absurd h (by decide))
  refine s4_46 ?_
  refine s4_47 ?_
  refine s4_48 (fun h => absurd h (by decide)) (fun _ => ?_)
  refine s4_51 ?_
  refine s4_53 (fun _ => ?_) (fun h => absurd h (by decide))
  refine s4_65 ?_
  refine s4_67 (fun _ => ?_) (fun h => absurd h (by decide))
  refine s4_84 ?_
  refine s4_85k 1 rfl rfl ?_
  refine s4_86 ?_
  refine s4_88 (fun h => absurd h (by decide)) (fun _ => ?_)
  refine s4_91 ?_
  refine s4_93 ?_
  refine s4_94 (fun h => absurd h (by decide)) (fun _ => ?_)
  refine s4_97 ?_
  refine s4_98 ?_
  refine s4_99 0 rfl (by decide) rfl ?_
  refine s4_100 ?_
  refine s4_102 ?_
  refine s4_103 0 rfl (by decide) rfl ?_
  refine s4_104 (fun h => absurd h (by decide)) (fun _ => ?_)
  refine s4_107 ?_
  refine s4_109 ?_
  refine s4_110 (fun _ => ?_) (fun h => absurd h (by decide))
  refine s4_123 ?_
  refine s4_125 ?_
  refine s4_126 (fun _ => ?_) (fun h => absurd h (by decide))
  refine s4_139 ?_
  refine s4_141 ?_
  refine s4_142 (fun _ => ?_) (fun h => absurd h (by decide))
  refine s4_155 ?_
  refine s4_156 ?_
  exact s4_160 ⟨rfl, rfl⟩
theorem own_r107 {m : Nat} : M3 ⟨0, 1, 0, 0⟩ [.ref 0, .int 2] [(.inl (0, [.ref 1, .ref 2, .ref 3, .ref 4, .ref 5]) : ACell), (.inr (.int, own_a 3 0) : ACell), (.inr (.int, own_a 3 0) : ACell), (.inr (.int, own_b m 0 0 0 1) : ACell), (.inr (.int, own_b m 0 0 3 0) : ACell), (.inr (.int, own_b m 0 0 0 0) : ACell), (.inr (.int, [.int 3]) : ACell), (.inr (.int, [.int 3, .int 0, .int 0, .int 0]) : ACell)] (Is (some (.ref 8)) [(.inl (0, [.ref 1, .ref 2, .ref 3, .ref 4, .ref 5]) : ACell), (.inr (.int, own_a 3 0) : ACell), (.inr (.int, own_a 3 0) : ACell), (.inr (.int, own_b m 0 0 0 1) : ACell), (.inr (.int, own_b m 0 0 3 0) : ACell), (.inr (.int, own_b m 0 0 0 0) : ACell), (.inr (.int, [.int 3]) : ACell), (.inr (.int, [.int 3, .int 0, .int 0, .int 0]) : ACell), (.inr (.int, []) : ACell)]) := by
  refine e3 ?_
  refine s3_0 ?_
  refine s3_1 rfl ?_
  refine s3_2 ?_
  refine s3_3 rfl ?_
  refine s3_6 ?_
  refine s3_7 2 rfl (by decide) rfl ?_
  refine s3_8 rfl ?_
  refine s3_9 ?_
  refine s3_10 (fun _ => ?_) (fun h => absurd h (by decide))
  refine s3_26 ?_
  refine s3_27 8 0 (by decide) rfl rfl ?_
  refine s3_29 rfl ?_
  refine s3_30 ?_
  refine s3_31 rfl ?_
  refine s3_33 ?_
  refine s3_34 rfl ?_
  refine s3_37 ?_
  refine s3_38 2 rfl (by decide) rfl ?_
  refine s3_39 rfl ?_
  refine s3_41 ?_
  refine s3_43 (fun _ => ?_) (fun h => absurd h (by decide))
  refine s3_67 ?_
  exact s3_68 ⟨rfl, rfl⟩
theorem own_r108 {m : Nat} : M4 ⟨0, 1, 4, 0⟩ [.ref 8, .int 2, .int 2, .int 1, .int 0, .int 1, .int 1, .int 0] [(.inl (0, [.ref 1, .ref 2, .ref 3, .ref 4, .ref 5]) : ACell), (.inr (.int, own_a 3 0) : ACell), (.inr (.int, own_a 3 0) : ACell), (.inr (.int, own_b m 0 0 0 1) : ACell), (.inr (.int, own_b m 0 0 3 0) : ACell), (.inr (.int, own_b m 0 0 0 0) : ACell), (.inr (.int, [.int 3]) : ACell), (.inr (.int, [.int 3, .int 0, .int 0, .int 0]) : ACell), (.inr (.int, []) : ACell)] (Is (some (.int 1)) [(.inl (0, [.ref 1, .ref 2, .ref 3, .ref 4, .ref 5]) : ACell), (.inr (.int, own_a 3 0) : ACell), (.inr (.int, own_a 3 0) : ACell), (.inr (.int, own_b m 0 0 0 1) : ACell), (.inr (.int, own_b m 0 0 3 0) : ACell), (.inr (.int, own_b m 0 0 0 0) : ACell), (.inr (.int, [.int 3]) : ACell), (.inr (.int, [.int 3, .int 0, .int 0, .int 0]) : ACell), (.inr (.int, []) : ACell), (.inr (.int, [.int 0, .int 0, .int 0, .int 0]) : ACell)]) := by
  refine e4 ?_
  refine s4_0 ?_
  refine s4_1 9 4 (by decide) rfl rfl ?_
  refine s4_3 rfl ?_
  refine s4_5 ?_
  refine s4_6 rfl ?_
  refine s4_8 ?_
  refine s4_9 ?_
  refine s4_10 (fun _ => ?_) (fun h => absurd h (by decide))
  refine s4_27 ?_
  refine s4_28 ?_
  refine s4_29 (fun h => absurd h (by decide)) (fun _ => ?_)
  refine s4_32 ?_
  refine s4_34 (fun _ => ?_) (fun h => absurd h (by decide))
  refine s4_46 ?_
  refine s4_47 ?_
  refine s4_48 (fun _ => ?_) (fun h => absurd h (by decide))
  refine s4_65 ?_
  refine s4_67 (fun _ => ?_) (fun h => absurd h (by decide))
  refine s4_84 ?_
  refine s4_85k 0 rfl rfl ?_
  refine s4_86 ?_
  refine s4_88 (fun h => absurd h (by decide)) (fun _ => ?_)
  refine s4_91 ?_
  refine s4_93 ?_
  refine s4_94 (fun _ => ?_) (fun h => absurd h (by decide))
  refine s4_107 ?_
  refine s4_109 ?_
  refine s4_110 (fun _ => ?_) (fun h => absurd h (by decide))
  refine s4_123 ?_
  refine s4_125 ?_
  refine s4_126 (fun _ => ?_) (fun h => absurd h (by decide))
  refine s4_139 ?_
  refine s4_141 ?_
  refine s4_142 (fun _ => ?_) (fun h => absurd h (by decide))
  refine s4_155 ?_
  refine s4_156 ?_
  exact s4_160 ⟨rfl, rfl⟩
theorem own_r109 {m : Nat} : M2 ⟨0, 0, 0, 0⟩ [.ref 0, .int 1, .int 1] [(.inl (0, [.ref 1, .ref 2, .ref 3, .ref 4, .ref 5]) : ACell), (.inr (.int, own_a 3 0) : ACell), (.inr (.int, own_a 2 0) : ACell), (.inr (.int, own_b m 0 0 1 1) : ACell), (.inr (.int, own_b m 0 0 3 0) : ACell), (.inr (.int, own_b m 0 0 0 2) : ACell)] (Is none [(.inl (0, [.ref 1, .ref 2, .ref 3, .ref 4, .ref 5]) : ACell), (.inr (.int, own_a 3 0) : ACell), (.inr (.int, own_a 1 0) : ACell), (.inr (.int, own_b m 0 1 1 1) : ACell), (.inr (.int, own_b m 0 2 3 0) : ACell), (.inr (.int, own_b m 0 0 1 2) : ACell)]) := by
  refine e2 ?_
  refine s2_0 ?_
  refine s2_1 ?_
  refine s2_2 rfl ?_
  refine s2_5k 16 rfl rfl ?_
  refine s2_6 (fun _ => ?_) (fun h => absurd h (by decide))
  refine s2_45 ?_
  refine s2_46 rfl ?_
  refine s2_49 ?_
  refine s2_50 ?_
  refine s2_51 1 rfl (by decide) rfl ?_
  refine s2_52 ?_
  refine s2_53 rfl ?_
  refine s2_56 ?_
  refine s2_57 ?_
  refine s2_58 rfl ?_
  refine s2_61 ?_
  refine s2_62 1 rfl (by decide) rfl ?_
  refine s2_63 1 rfl (by decide) rfl ?_
  refine s2_64 ?_
  refine s2_65 rfl ?_
  refine s2_68 ?_
  refine s2_69 ?_
  refine s2_70 1 rfl (by decide) rfl ?_
  refine s2_71 ?_
  refine s2_72 rfl ?_
  refine s2_75 ?_
  refine s2_76 1 rfl (by decide) rfl ?_
  refine s2_77 (fun _ => ?_) (fun h => absurd h (by decide))
  refine s2_90 ?_
  refine s2_91 rfl ?_
  refine s2_94 ?_
  refine s2_95 rfl ?_
  refine s2_98 ?_
  refine s2_99 1 rfl (by decide) rfl ?_
  refine s2_100 ?_
  refine s2_101 2 rfl (by decide) rfl ?_
  refine s2_102 ?_
  refine s2_103 rfl ?_
  refine s2_106 ?_
  refine s2_107 ?_
  refine s2_108 1 rfl (by decide) rfl ?_
  exact s2_109 ⟨rfl, rfl⟩
theorem own_r110 {m : Nat} : M4 ⟨0, 1, 4, 0⟩ [.ref 6, .int 1, .int 2, .int 1, .int 0, .int 1, .int 0, .int 1] [(.inl (0, [.ref 1, .ref 2, .ref 3, .ref 4, .ref 5]) : ACell), (.inr (.int, own_a 3 0) : ACell), (.inr (.int, own_a 1 0) : ACell), (.inr (.int, own_b m 0 1 1 1) : ACell), (.inr (.int, own_b m 0 2 3 0) : ACell), (.inr (.int, own_b m 0 0 1 2) : ACell), (.inr (.int, [.int 3, .int 2, .int 1]) : ACell)] (Is (some (.int 1)) [(.inl (0, [.ref 1, .ref 2, .ref 3, .ref 4, .ref 5]) : ACell), (.inr (.int, own_a 3 0) : ACell), (.inr (.int, own_a 1 0) : ACell), (.inr (.int, own_b m 0 1 1 1) : ACell), (.inr (.int, own_b m 0 2 3 0) : ACell), (.inr (.int, own_b m 0 0 1 2) : ACell), (.inr (.int, [.int 3, .int 2, .int 1]) : ACell), (.inr (.int, [.int 3, .int 2, .int 1, .int 0]) : ACell)]) := by
  refine e4 ?_
  refine s4_0 ?_
  refine s4_1 7 4 (by decide) rfl rfl ?_
  refine s4_3 rfl ?_
  refine s4_5 ?_
  refine s4_6 rfl ?_
  refine s4_8 ?_
  refine s4_9 ?_
  refine s4_10 (fun h => absurd h (by decide)) (fun _ => ?_)
  refine s4_13 ?_
  refine s4_15 (fun h => absurd h (by decide)) (fun _ => ?_)
  refine s4_18 ?_
  refine s4_20 ?_
  refine s4_22 ?_
  refine s4_23 0 rfl (by decide) rfl ?_
  refine s4_24 ?_
  refine s4_27 ?_
  refine s4_28 ?_
  refine s4_29 (fun _ => ?_) (fun h => absurd h (by decide))
  refine s4_46 ?_
  refine s4_47 ?_
  refine s4_48 (fun h => absurd h (by decide)) (fun _ => ?_)
  refine s4_51 ?_
  refine s4_53 (fun h => absurd h (by decide)) (fun _ => ?_)
  refine s4_56 ?_
  refine s4_58 ?_
  refine s4_60 ?_
  refine s4_61 1 rfl (by decide) rfl ?_
  refine s4_62 ?_
  refine s4_65 ?_
  refine s4_67 (fun h => absurd h (by decide)) (fun _ => ?_)
  refine s4_70 ?_
  refine s4_71 ?_
  refine s4_72 (fun h => absurd h (by decide)) (fun _ => ?_)
  refine s4_75 ?_
  refine s4_77 ?_
  refine s4_79 ?_
  refine s4_80 2 rfl (by decide) rfl ?_
  refine s4_81 ?_
  refine s4_84 ?_
  refine s4_85k 3 rfl rfl ?_
  refine s4_86 ?_
  refine s4_88 (fun h => absurd h (by decide)) (fun _ => ?_)
  refine s4_91 ?_
  refine s4_93 ?_
  refine s4_94 (fun h => absurd h (by decide)) (fun _ => ?_)
  refine s4_97 ?_
  refine s4_98 ?_
  refine s4_99 0 rfl (by decide) rfl ?_
  refine s4_100 ?_
  refine s4_102 ?_
  refine s4_103 0 rfl (by decide) rfl ?_
  refine s4_104 (fun h => absurd h (by decide)) (fun _ => ?_)
  refine s4_107 ?_
  refine s4_109 ?_
  refine s4_110 (fun h => absurd h (by decide)) (fun _ => ?_)
  refine s4_113 ?_
  refine s4_114 ?_
  refine s4_115 1 rfl (by decide) rfl ?_
  refine s4_116 ?_
  refine s4_118 ?_
  refine s4_119 1 rfl (by decide) rfl ?_
  refine s4_120 (fun h => absurd h (by decide)) (fun _ => ?_)
  refine s4_123 ?_
  refine s4_125 ?_
  refine s4_126 (fun h => absurd h (by decide)) (fun _ => ?_)
  refine s4_129 ?_
  refine s4_130 ?_
  refine s4_131 2 rfl (by decide) rfl ?_
  refine s4_132 ?_
  refine s4_134 ?_
  refine s4_135 2 rfl (by decide) rfl ?_
  refine s4_136 (fun h => absurd h (by decide)) (fun _ => ?_)
  refine s4_139 ?_
  refine s4_141 ?_
  refine s4_142 (fun _ => ?_) (fun h => absurd h (by decide))
  refine s4_155 ?_
  refine s4_156 ?_
  exact s4_160 ⟨rfl, rfl⟩
theorem own_r111 {m : Nat} : M3 ⟨0, 1, 0, 0⟩ [.ref 0, .int 2] [(.inl (0, [.ref 1, .ref 2, .ref 3, .ref 4, .ref 5]) : ACell), (.inr (.int, own_a 3 0) : ACell), (.inr (.int, own_a 1 0) : ACell), (.inr (.int, own_b m 0 1 1 1) : ACell), (.inr (.int, own_b m 0 2 3 0) : ACell), (.inr (.int, own_b m 0 0 1 2) : ACell), (.inr (.int, [.int 3, .int 2, .int 1]) : ACell), (.inr (.int, [.int 3, .int 2, .int 1, .int 0]) : ACell)] (Is (some (.ref 8)) [(.inl (0, [.ref 1, .ref 2, .ref 3, .ref 4, .ref 5]) : ACell), (.inr (.int, own_a 3 0) : ACell), (.inr (.int, own_a 1 0) : ACell), (.inr (.int, own_b m 0 1 1 1) : ACell), (.inr (.int, own_b m 0 2 3 0) : ACell), (.inr (.int, own_b m 0 0 1 2) : ACell), (.inr (.int, [.int 3, .int 2, .int 1]) : ACell), (.inr (.int, [.int 3, .int 2, .int 1, .int 0]) : ACell), (.inr (.int, []) : ACell)]) := by
  refine e3 ?_
  refine s3_0 ?_
  refine s3_1 rfl ?_
  refine s3_2 ?_
  refine s3_3 rfl ?_
  refine s3_6 ?_
  refine s3_7 2 rfl (by decide) rfl ?_
  refine s3_8 rfl ?_
  refine s3_9 ?_
  refine s3_10 (fun _ => ?_) (fun h => absurd h (by decide))
  refine s3_26 ?_
  refine s3_27 8 0 (by decide) rfl rfl ?_
  refine s3_29 rfl ?_
  refine s3_30 ?_
  refine s3_31 rfl ?_
  refine s3_33 ?_
  refine s3_34 rfl ?_
  refine s3_37 ?_
  refine s3_38 2 rfl (by decide) rfl ?_
  refine s3_39 rfl ?_
  refine s3_41 ?_
  refine s3_43 (fun _ => ?_) (fun h => absurd h (by decide))
  refine s3_67 ?_
  exact s3_68 ⟨rfl, rfl⟩
theorem own_r112 {m : Nat} : M4 ⟨0, 1, 4, 0⟩ [.ref 8, .int 2, .int 2, .int 1, .int 0, .int 1, .int 0, .int 1] [(.inl (0, [.ref 1, .ref 2, .ref 3, .ref 4, .ref 5]) : ACell), (.inr (.int, own_a 3 0) : ACell), (.inr (.int, own_a 1 0) : ACell), (.inr (.int, own_b m 0 1 1 1) : ACell), (.inr (.int, own_b m 0 2 3 0) : ACell), (.inr (.int, own_b m 0 0 1 2) : ACell), (.inr (.int, [.int 3, .int 2, .int 1]) : ACell), (.inr (.int, [.int 3, .int 2, .int 1, .int 0]) : ACell), (.inr (.int, []) : ACell)] (Is (some (.int 1)) [(.inl (0, [.ref 1, .ref 2, .ref 3, .ref 4, .ref 5]) : ACell), (.inr (.int, own_a 3 0) : ACell), (.inr (.int, own_a 1 0) : ACell), (.inr (.int, own_b m 0 1 1 1) : ACell), (.inr (.int, own_b m 0 2 3 0) : ACell), (.inr (.int, own_b m 0 0 1 2) : ACell), (.inr (.int, [.int 3, .int 2, .int 1]) : ACell), (.inr (.int, [.int 3, .int 2, .int 1, .int 0]) : ACell), (.inr (.int, []) : ACell), (.inr (.int, [.int 0, .int 0, .int 0, .int 0]) : ACell)]) := by
  refine e4 ?_
  refine s4_0 ?_
  refine s4_1 9 4 (by decide) rfl rfl ?_
  refine s4_3 rfl ?_
  refine s4_5 ?_
  refine s4_6 rfl ?_
  refine s4_8 ?_
  refine s4_9 ?_
  refine s4_10 (fun _ => ?_) (fun h => absurd h (by decide))
  refine s4_27 ?_
  refine s4_28 ?_
  refine s4_29 (fun h => absurd h (by decide)) (fun _ => ?_)
  refine s4_32 ?_
  refine s4_34 (fun _ => ?_) (fun h => absurd h (by decide))
  refine s4_46 ?_
  refine s4_47 ?_
  refine s4_48 (fun _ => ?_) (fun h => absurd h (by decide))
  refine s4_65 ?_
  refine s4_67 (fun h => absurd h (by decide)) (fun _ => ?_)
  refine s4_70 ?_
  refine s4_71 ?_
  refine s4_72 (fun _ => ?_) (fun h => absurd h (by decide))
  refine s4_84 ?_
  refine s4_85k 0 rfl rfl ?_
  refine s4_86 ?_
  refine s4_88 (fun h => absurd h (by decide)) (fun _ => ?_)
  refine s4_91 ?_
  refine s4_93 ?_
  refine s4_94 (fun _ => ?_) (fun h => absurd h (by decide))
  refine s4_107 ?_
  refine s4_109 ?_
  refine s4_110 (fun _ => ?_) (fun h => absurd h (by decide))
  refine s4_123 ?_
  refine s4_125 ?_
  refine s4_126 (fun _ => ?_) (fun h => absurd h (by decide))
  refine s4_139 ?_
  refine s4_141 ?_
  refine s4_142 (fun _ => ?_) (fun h => absurd h (by decide))
  refine s4_155 ?_
  refine s4_156 ?_
  exact s4_160 ⟨rfl, rfl⟩
theorem own_r113 {m : Nat} : M2 ⟨0, 0, 0, 0⟩ [.ref 0, .int 1, .int 1] [(.inl (0, [.ref 1, .ref 2, .ref 3, .ref 4, .ref 5]) : ACell), (.inr (.int, own_a 3 0) : ACell), (.inr (.int, own_a 3 0) : ACell), (.inr (.int, own_b m 0 0 0 1) : ACell), (.inr (.int, own_b m 0 0 3 0) : ACell), (.inr (.int, own_b m 0 0 0 0) : ACell)] (Is none [(.inl (0, [.ref 1, .ref 2, .ref 3, .ref 4, .ref 5]) : ACell), (.inr (.int, own_a 3 0) : ACell), (.inr (.int, own_a 1 0) : ACell), (.inr (.int, own_b m 0 1 0 1) : ACell), (.inr (.int, own_b m 0 3 3 0) : ACell), (.inr (.int, own_b m 0 0 0 1) : ACell)]) := by
  refine e2 ?_
  refine s2_0 ?_
  refine s2_1 ?_
  refine s2_2 rfl ?_
  refine s2_5k 16 rfl rfl ?_
  refine s2_6 (fun _ => ?_) (fun h => absurd h (by decide))
  refine s2_45 ?_
  refine s2_46 rfl ?_
  refine s2_49 ?_
  refine s2_50 ?_
  refine s2_51 1 rfl (by decide) rfl ?_
  refine s2_52 ?_
  refine s2_53 rfl ?_
  refine s2_56 ?_
  refine s2_57 ?_
  refine s2_58 rfl ?_
  refine s2_61 ?_
  refine s2_62 1 rfl (by decide) rfl ?_
  refine s2_63 1 rfl (by decide) rfl ?_
  refine s2_64 ?_
  refine s2_65 rfl ?_
  refine s2_68 ?_
  refine s2_69 ?_
  refine s2_70 1 rfl (by decide) rfl ?_
  refine s2_71 ?_
  refine s2_72 rfl ?_
  refine s2_75 ?_
  refine s2_76 1 rfl (by decide) rfl ?_
  refine s2_77 (fun _ => ?_) (fun h => absurd h (by decide))
  refine s2_90 ?_
  refine s2_91 rfl ?_
  refine s2_94 ?_
  refine s2_95 rfl ?_
  refine s2_98 ?_
  refine s2_99 1 rfl (by decide) rfl ?_
  refine s2_100 ?_
  refine s2_101 3 rfl (by decide) rfl ?_
  refine s2_102 ?_
  refine s2_103 rfl ?_
  refine s2_106 ?_
  refine s2_107 ?_
  refine s2_108 1 rfl (by decide) rfl ?_
  exact s2_109 ⟨rfl, rfl⟩
theorem own_r114 {m : Nat} : M3 ⟨0, 1, 2, 0⟩ [.ref 0, .int 1] [(.inl (0, [.ref 1, .ref 2, .ref 3, .ref 4, .ref 5]) : ACell), (.inr (.int, own_a 3 0) : ACell), (.inr (.int, own_a 1 0) : ACell), (.inr (.int, own_b m 0 1 0 1) : ACell), (.inr (.int, own_b m 0 3 3 0) : ACell), (.inr (.int, own_b m 0 0 0 1) : ACell)] (Is (some (.ref 6)) [(.inl (0, [.ref 1, .ref 2, .ref 3, .ref 4, .ref 5]) : ACell), (.inr (.int, own_a 3 0) : ACell), (.inr (.int, own_a 1 0) : ACell), (.inr (.int, own_b m 0 1 0 1) : ACell), (.inr (.int, own_b m 0 3 3 0) : ACell), (.inr (.int, own_b m 0 0 0 1) : ACell), (.inr (.int, [.int 3, .int 1]) : ACell)]) := by
  refine e3 ?_
  refine s3_0 ?_
  refine s3_1 rfl ?_
  refine s3_2 ?_
  refine s3_3 rfl ?_
  refine s3_6 ?_
  refine s3_7 1 rfl (by decide) rfl ?_
  refine s3_8 rfl ?_
  refine s3_9 ?_
  refine s3_10 (fun h => absurd h (by decide)) (fun _ => ?_)
  refine s3_13 ?_
  refine s3_16 ?_
  refine s3_17 rfl ?_
  refine s3_20 ?_
  refine s3_21 3 rfl (by decide) rfl ?_
  refine s3_22 rfl ?_
  refine s3_23 ?_
  refine s3_9 ?_
  refine s3_10 (fun h => absurd h (by decide)) (fun _ => ?_)
  refine s3_13 ?_
  refine s3_16 ?_
  refine s3_17 rfl ?_
  refine s3_20 ?_
  refine s3_21 1 rfl (by decide) rfl ?_
  refine s3_22 rfl ?_
  refine s3_23 ?_
  refine s3_9 ?_
  refine s3_10 (fun _ => ?_) (fun h => absurd h (by decide))
  refine s3_26 ?_
  refine s3_27 6 2 (by decide) rfl rfl ?_
  refine s3_29 rfl ?_
  refine s3_30 ?_
  refine s3_31 rfl ?_
  refine s3_33 ?_
  refine s3_34 rfl ?_
  refine s3_37 ?_
  refine s3_38 1 rfl (by decide) rfl ?_
  refine s3_39 rfl ?_
  refine s3_41 ?_
  refine s3_43 (fun h => absurd h (by decide)) (fun _ => ?_)
  refine s3_46 ?_
  refine s3_47 ?_
  refine s3_49 ?_
  refine s3_51 0 rfl (by decide) rfl ?_
  refine s3_52 ?_
  refine s3_55 ?_
  refine s3_56 rfl ?_
  refine s3_59 ?_
  refine s3_61 3 rfl (by decide) rfl ?_
  refine s3_62 rfl ?_
  refine s3_64 ?_
  refine s3_41 ?_
  refine s3_43 (fun h => absurd h (by decide)) (fun _ => ?_)
  refine s3_46 ?_
  refine s3_47 ?_
  refine s3_49 ?_
  refine s3_51 1 rfl (by decide) rfl ?_
  refine s3_52 ?_
  refine s3_55 ?_
  refine s3_56 rfl ?_
  refine s3_59 ?_
  refine s3_61 1 rfl (by decide) rfl ?_
  refine s3_62 rfl ?_
  refine s3_64 ?_
  refine s3_41 ?_
  refine s3_43 (fun _ => ?_) (fun h => absurd h (by decide))
  refine s3_67 ?_
  exact s3_68 ⟨rfl, rfl⟩
theorem own_r115 {m : Nat} : M4 ⟨0, 1, 4, 0⟩ [.ref 6, .int 1, .int 2, .int 1, .int 0, .int 1, .int 1, .int 1] [(.inl (0, [.ref 1, .ref 2, .ref 3, .ref 4, .ref 5]) : ACell), (.inr (.int, own_a 3 0) : ACell), (.inr (.int, own_a 1 0) : ACell), (.inr (.int, own_b m 0 1 0 1) : ACell), (.inr (.int, own_b m 0 3 3 0) : ACell), (.inr (.int, own_b m 0 0 0 1) : ACell), (.inr (.int, [.int 3, .int 1]) : ACell)] (Is (some (.int 1)) [(.inl (0, [.ref 1, .ref 2, .ref 3, .ref 4, .ref 5]) : ACell), (.inr (.int, own_a 3 0) : ACell), (.inr (.int, own_a 1 0) : ACell), (.inr (.int, own_b m 0 1 0 1) : ACell), (.inr (.int, own_b m 0 3 3 0) : ACell), (.inr (.int, own_b m 0 0 0 1) : ACell), (.inr (.int, [.int 3, .int 1]) : ACell), (.inr (.int, [.int 3, .int 1, .int 0, .int 0]) : ACell)]) := by
  refine e4 ?_
  refine s4_0 ?_
  refine s4_1 7 4 (by decide) rfl rfl ?_
  refine s4_3 rfl ?_
  refine s4_5 ?_
  refine s4_6 rfl ?_
  refine s4_8 ?_
  refine s4_9 ?_
  refine s4_10 (fun h => absurd h (by decide)) (fun _ => ?_)
  refine s4_13 ?_
  refine s4_15 (fun h => absurd h (by decide)) (fun _ => ?_)
  refine s4_18 ?_
  refine s4_20 ?_
  refine s4_22 ?_
  refine s4_23 0 rfl (by decide) rfl ?_
  refine s4_24 ?_
  refine s4_27 ?_
  refine s4_28 ?_
  refine s4_29 (fun _ => ?_) (fun h => absurd h (by decide))
  refine s4_46 ?_
  refine s4_47 ?_
  refine s4_48 (fun h => absurd h (by decide)) (fun _ => ?_)
  refine s4_51 ?_
  refine s4_53 (fun _ => ?_) (fun h => absurd h (by decide))
  refine s4_65 ?_
  refine s4_67 (fun h => absurd h (by decide)) (fun _ => ?_)
  refine s4_70 ?_
  refine s4_71 ?_
  refine s4_72 (fun h => absurd h (by decide)) (fun _ => ?_)
  refine s4_75 ?_
  refine s4_77 ?_
  refine s4_79 ?_
  refine s4_80 1 rfl (by decide) rfl ?_
  refine s4_81 ?_
  refine s4_84 ?_
  refine s4_85k 2 rfl rfl ?_
  refine s4_86 ?_
  refine s4_88 (fun h => absurd h (by decide)) (fun _ => ?_)
  refine s4_91 ?_
  refine s4_93 ?_
  refine s4_94 (fun h => absurd h (by decide)) (fun _ => ?_)
  refine s4_97 ?_
  refine s4_98 ?_
  refine s4_99 0 rfl (by decide) rfl ?_
  refine s4_100 ?_
  refine s4_102 ?_
  refine s4_103 0 rfl (by decide) rfl ?_
  refine s4_104 (fun h => absurd h (by decide)) (fun _ => ?_)
  refine s4_107 ?_
  refine s4_109 ?_
  refine s4_110 (fun h => absurd h (by decide)) (fun _ => ?_)
  refine s4_113 ?_
  refine s4_114 ?_
  refine s4_115 1 rfl (by decide) rfl ?_
  refine s4_116 ?_
  refine s4_118 ?_
  refine s4_119 1 rfl (by decide) rfl ?_
  refine s4_120 (fun h => absurd h (by decide)) (fun _ => ?_)
  refine s4_123 ?_
  refine s4_125 ?_
  refine s4_126 (fun _ => ?_) (fun h => absurd h (by decide))
  refine s4_139 ?_
  refine s4_141 ?_
  refine s4_142 (fun _ => ?_) (fun h => absurd h (by decide))
  refine s4_155 ?_
  refine s4_156 ?_
  exact s4_160 ⟨rfl, rfl⟩
theorem own_r116 {m : Nat} : M3 ⟨0, 1, 0, 0⟩ [.ref 0, .int 2] [(.inl (0, [.ref 1, .ref 2, .ref 3, .ref 4, .ref 5]) : ACell), (.inr (.int, own_a 3 0) : ACell), (.inr (.int, own_a 1 0) : ACell), (.inr (.int, own_b m 0 1 0 1) : ACell), (.inr (.int, own_b m 0 3 3 0) : ACell), (.inr (.int, own_b m 0 0 0 1) : ACell), (.inr (.int, [.int 3, .int 1]) : ACell), (.inr (.int, [.int 3, .int 1, .int 0, .int 0]) : ACell)] (Is (some (.ref 8)) [(.inl (0, [.ref 1, .ref 2, .ref 3, .ref 4, .ref 5]) : ACell), (.inr (.int, own_a 3 0) : ACell), (.inr (.int, own_a 1 0) : ACell), (.inr (.int, own_b m 0 1 0 1) : ACell), (.inr (.int, own_b m 0 3 3 0) : ACell), (.inr (.int, own_b m 0 0 0 1) : ACell), (.inr (.int, [.int 3, .int 1]) : ACell), (.inr (.int, [.int 3, .int 1, .int 0, .int 0]) : ACell), (.inr (.int, []) : ACell)]) := by
  refine e3 ?_
  refine s3_0 ?_
  refine s3_1 rfl ?_
  refine s3_2 ?_
  refine s3_3 rfl ?_
  refine s3_6 ?_
  refine s3_7 2 rfl (by decide) rfl ?_
  refine s3_8 rfl ?_
  refine s3_9 ?_
  refine s3_10 (fun _ => ?_) (fun h => absurd h (by decide))
  refine s3_26 ?_
  refine s3_27 8 0 (by decide) rfl rfl ?_
  refine s3_29 rfl ?_
  refine s3_30 ?_
  refine s3_31 rfl ?_
  refine s3_33 ?_
  refine s3_34 rfl ?_
  refine s3_37 ?_
  refine s3_38 2 rfl (by decide) rfl ?_
  refine s3_39 rfl ?_
  refine s3_41 ?_
  refine s3_43 (fun _ => ?_) (fun h => absurd h (by decide))
  refine s3_67 ?_
  exact s3_68 ⟨rfl, rfl⟩
theorem own_r117 {m : Nat} : M4 ⟨0, 1, 4, 0⟩ [.ref 8, .int 2, .int 2, .int 1, .int 0, .int 1, .int 1, .int 1] [(.inl (0, [.ref 1, .ref 2, .ref 3, .ref 4, .ref 5]) : ACell), (.inr (.int, own_a 3 0) : ACell), (.inr (.int, own_a 1 0) : ACell), (.inr (.int, own_b m 0 1 0 1) : ACell), (.inr (.int, own_b m 0 3 3 0) : ACell), (.inr (.int, own_b m 0 0 0 1) : ACell), (.inr (.int, [.int 3, .int 1]) : ACell), (.inr (.int, [.int 3, .int 1, .int 0, .int 0]) : ACell), (.inr (.int, []) : ACell)] (Is (some (.int 1)) [(.inl (0, [.ref 1, .ref 2, .ref 3, .ref 4, .ref 5]) : ACell), (.inr (.int, own_a 3 0) : ACell), (.inr (.int, own_a 1 0) : ACell), (.inr (.int, own_b m 0 1 0 1) : ACell), (.inr (.int, own_b m 0 3 3 0) : ACell), (.inr (.int, own_b m 0 0 0 1) : ACell), (.inr (.int, [.int 3, .int 1]) : ACell), (.inr (.int, [.int 3, .int 1, .int 0, .int 0]) : ACell), (.inr (.int, []) : ACell), (.inr (.int, [.int 0, .int 0, .int 0, .int 0]) : ACell)]) := by
  refine e4 ?_
  refine s4_0 ?_
  refine s4_1 9 4 (by decide) rfl rfl ?_
  refine s4_3 rfl ?_
  refine s4_5 ?_
  refine s4_6 rfl ?_
  refine s4_8 ?_
  refine s4_9 ?_
  refine s4_10 (fun _ => ?_) (fun h => absurd h (by decide))
  refine s4_27 ?_
  refine s4_28 ?_
  refine s4_29 (fun h => absurd h (by decide)) (fun _ => ?_)
  refine s4_32 ?_
  refine s4_34 (fun _ => ?_) (fun h => absurd h (by decide))
  refine s4_46 ?_
  refine s4_47 ?_
  refine s4_48 (fun _ => ?_) (fun h => absurd h (by decide))
  refine s4_65 ?_
  refine s4_67 (fun h => absurd h (by decide)) (fun _ => ?_)
  refine s4_70 ?_
  refine s4_71 ?_
  refine s4_72 (fun _ => ?_) (fun h => absurd h (by decide))
  refine s4_84 ?_
  refine s4_85k 0 rfl rfl ?_
  refine s4_86 ?_
  refine s4_88 (fun h => absurd h (by decide)) (fun _ => ?_)
  refine s4_91 ?_
  refine s4_93 ?_
  refine s4_94 (fun _ => ?_) (fun h => absurd h (by decide))
  refine s4_107 ?_
  refine s4_109 ?_
  refine s4_110 (fun _ => ?_) (fun h => absurd h (by decide))
  refine s4_123 ?_
  refine s4_125 ?_
  refine s4_126 (fun _ => ?_) (fun h => absurd h (by decide))
  refine s4_139 ?_
  refine s4_141 ?_
  refine s4_142 (fun _ => ?_) (fun h => absurd h (by decide))
  refine s4_155 ?_
  refine s4_156 ?_
  exact s4_160 ⟨rfl, rfl⟩
theorem own_r118 {m : Nat} : M5 ⟨0, 0, 0, 0⟩ [.ref 0, .int 3] [(.inl (0, [.ref 1, .ref 2, .ref 3, .ref 4, .ref 5]) : ACell), (.inr (.int, own_a 3 1) : ACell), (.inr (.int, own_a 2 1) : ACell), (.inr (.int, own_b m 0 2 1 1) : ACell), (.inr (.int, own_b m 0 0 3 0) : ACell), (.inr (.int, own_b m 0 0 0 2) : ACell)] (Is none [(.inl (0, [.ref 1, .ref 2, .ref 3, .ref 4, .ref 5]) : ACell), (.inr (.int, own_a 2 1) : ACell), (.inr (.int, own_a 2 1) : ACell), (.inr (.int, own_b m 0 2 1 0) : ACell), (.inr (.int, own_b m 0 0 0 0) : ACell), (.inr (.int, own_b m 0 0 0 2) : ACell)]) := by
  refine e5 ?_
  refine s5_0 ?_
  refine s5_1 rfl ?_
  refine s5_4 ?_
  refine s5_5 3 rfl (by decide) rfl ?_
  refine s5_6 rfl ?_
  refine s5_7 ?_
  refine s5_8 rfl ?_
  refine s5_11 ?_
  refine s5_12 3 rfl (by decide) rfl ?_
  refine s5_13 (fun h => absurd h (by decide)) (fun _ => ?_)
  refine s5_16 ?_
  refine s5_17 rfl ?_
  refine s5_20 ?_
  refine s5_21 ?_
  refine s5_22 rfl ?_
  refine s5_25 ?_
  refine s5_26 3 rfl (by decide) rfl ?_
  refine s5_27 1 rfl (by decide) rfl ?_
  refine s5_28 ?_
  refine s5_48 ?_
  refine s5_49 rfl ?_
  refine s5_52 ?_
  refine s5_53 3 rfl (by decide) rfl ?_
  refine s5_54 (fun _ => ?_) (fun h => absurd h (by decide))
  refine s5_72 ?_
  refine s5_73 rfl ?_
  refine s5_76 ?_
  refine s5_77 rfl ?_
  refine s5_80 ?_
  refine s5_81 3 rfl (by decide) rfl ?_
  refine s5_82 ?_
  refine s5_83 rfl ?_
  refine s5_86 ?_
  refine s5_87 3 rfl (by decide) rfl ?_
  refine s5_88 2 rfl (by decide) rfl ?_
  refine s5_89 ?_
  refine s5_90 rfl ?_
  refine s5_93 ?_
  refine s5_94 ?_
  refine s5_95 3 rfl (by decide) rfl ?_
  exact s5_96 ⟨rfl, rfl⟩
theorem own_r119 {m : Nat} : M3 ⟨0, 1, 1, 0⟩ [.ref 0, .int 1] [(.inl (0, [.ref 1, .ref 2, .ref 3, .ref 4, .ref 5]) : ACell), (.inr (.int, own_a 2 1) : ACell), (.inr (.int, own_a 2 1) : ACell), (.inr (.int, own_b m 0 2 1 0) : ACell), (.inr (.int, own_b m 0 0 0 0) : ACell), (.inr (.int, own_b m 0 0 0 2) : ACell)] (Is (some (.ref 6)) [(.inl (0, [.ref 1, .ref 2, .ref 3, .ref 4, .ref 5]) : ACell), (.inr (.int, own_a 2 1) : ACell), (.inr (.int, own_a 2 1) : ACell), (.inr (.int, own_b m 0 2 1 0) : ACell), (.inr (.int, own_b m 0 0 0 0) : ACell), (.inr (.int, own_b m 0 0 0 2) : ACell), (.inr (.int, [.int 2]) : ACell)]) := by
  refine e3 ?_
  refine s3_0 ?_
  refine s3_1 rfl ?_
  refine s3_2 ?_
  refine s3_3 rfl ?_
  refine s3_6 ?_
  refine s3_7 1 rfl (by decide) rfl ?_
  refine s3_8 rfl ?_
  refine s3_9 ?_
  refine s3_10 (fun h => absurd h (by decide)) (fun _ => ?_)
  refine s3_13 ?_
  refine s3_16 ?_
  refine s3_17 rfl ?_
  refine s3_20 ?_
  refine s3_21 2 rfl (by decide) rfl ?_
  refine s3_22 rfl ?_
  refine s3_23 ?_
  refine s3_9 ?_
  refine s3_10 (fun _ => ?_) (fun h => absurd h (by decide))
  refine s3_26 ?_
  refine s3_27 6 1 (by decide) rfl rfl ?_
  refine s3_29 rfl ?_
  refine s3_30 ?_
  refine s3_31 rfl ?_
  refine s3_33 ?_
  refine s3_34 rfl ?_
  refine s3_37 ?_
  refine s3_38 1 rfl (by decide) rfl ?_
  refine s3_39 rfl ?_
  refine s3_41 ?_
  refine s3_43 (fun h => absurd h (by decide)) (fun _ => ?_)
  refine s3_46 ?_
  refine s3_47 ?_
  refine s3_49 ?_
  refine s3_51 0 rfl (by decide) rfl ?_
  refine s3_52 ?_
  refine s3_55 ?_
  refine s3_56 rfl ?_
  refine s3_59 ?_
  refine s3_61 2 rfl (by decide) rfl ?_
  refine s3_62 rfl ?_
  refine s3_64 ?_
  refine s3_41 ?_
  refine s3_43 (fun _ => ?_) (fun h => absurd h (by decide))
  refine s3_67 ?_
  exact s3_68 ⟨rfl, rfl⟩
theorem own_r120 {m : Nat} : M4 ⟨0, 1, 4, 0⟩ [.ref 6, .int 1, .int 2, .int 1, .int 1, .int 0, .int 0, .int 0] [(.inl (0, [.ref 1, .ref 2, .ref 3, .ref 4, .ref 5]) : ACell), (.inr (.int, own_a 2 1) : ACell), (.inr (.int, own_a 2 1) : ACell), (.inr (.int, own_b m 0 2 1 0) : ACell), (.inr (.int, own_b m 0 0 0 0) : ACell), (.inr (.int, own_b m 0 0 0 2) : ACell), (.inr (.int, [.int 2]) : ACell)] (Is (some (.int 1)) [(.inl (0, [.ref 1, .ref 2, .ref 3, .ref 4, .ref 5]) : ACell), (.inr (.int, own_a 2 1) : ACell), (.inr (.int, own_a 2 1) : ACell), (.inr (.int, own_b m 0 2 1 0) : ACell), (.inr (.int, own_b m 0 0 0 0) : ACell), (.inr (.int, own_b m 0 0 0 2) : ACell), (.inr (.int, [.int 2]) : ACell), (.inr (.int, [.int 2, .int 0, .int 0, .int 0]) : ACell)]) := by
  refine e4 ?_
  refine s4_0 ?_
  refine s4_1 7 4 (by decide) rfl rfl ?_
  refine s4_3 rfl ?_
  refine s4_5 ?_
  refine s4_6 rfl ?_
  refine s4_8 ?_
  refine s4_9 ?_
  refine s4_10 (fun h => absurd h (by decide)) (fun _ => ?_)
  refine s4_13 ?_
  refine s4_15 (fun _ => ?_) (fun h => absurd h (by decide))
  refine s4_27 ?_
  refine s4_28 ?_
  refine s4_29 (fun _ => ?_) (fun h => absurd h (by decide))
  refine s4_46 ?_
  refine s4_47 ?_
  refine s4_48 (fun h => absurd h (by decide)) (fun _ => ?_)
  refine s4_51 ?_
  refine s4_53 (fun h => absurd h (by decide)) (fun _ => ?_)
  refine s4_56 ?_
  refine s4_58 ?_
  refine s4_60 ?_
  refine s4_61 0 rfl (by decide) rfl ?_
  refine s4_62 ?_
  refine s4_65 ?_
  refine s4_67 (fun _ => ?_) (fun h => absurd h (by decide))
  refine s4_84 ?_
  refine s4_85k 1 rfl rfl ?_
  refine s4_86 ?_
  refine s4_88 (fun h => absurd h (by decide)) (fun _ => ?_)
  refine s4_91 ?_
  refine s4_93 ?_
  refine s4_94 (fun h => absurd h (by decide)) (fun _ => ?_)
  refine s4_97 ?_
  refine s4_98 ?_
  refine s4_99 0 rfl (by decide) rfl ?_
  refine s4_100 ?_
  refine s4_102 ?_
  refine s4_103 0 rfl (by decide) rfl ?_
  refine s4_104 (fun h => absurd h (by decide)) (fun _ => ?_)
  refine s4_107 ?_
  refine s4_109 ?_
  refine s4_110 (fun _ => ?_) (fun h => absurd h (by decide))
  refine s4_123 ?_
  refine s4_125 ?_
  refine s4_126 (fun _ => ?_) (fun h => absurd h (by decide))
  refine s4_139 ?_
  refine s4_141 ?_
  refine s4_142 (fun _ => ?_) (fun h => absurd h (by decide))
  refine s4_155 ?_
  refine s4_156 ?_
  exact s4_160 ⟨rfl, rfl⟩
theorem own_r121 {m : Nat} : M3 ⟨0, 1, 1, 0⟩ [.ref 0, .int 2] [(.inl (0, [.ref 1, .ref 2, .ref 3, .ref 4, .ref 5]) : ACell), (.inr (.int, own_a 2 1) : ACell), (.inr (.int, own_a 2 1) : ACell), (.inr (.int, own_b m 0 2 1 0) : ACell), (.inr (.int, own_b m 0 0 0 0) : ACell), (.inr (.int, own_b m 0 0 0 2) : ACell), (.inr (.int, [.int 2]) : ACell), (.inr (.int, [.int 2, .int 0, .int 0, .int 0]) : ACell)] (Is (some (.ref 8)) [(.inl (0, [.ref 1, .ref 2, .ref 3, .ref 4, .ref 5]) : ACell), (.inr (.int, own_a 2 1) : ACell), (.inr (.int, own_a 2 1) : ACell), (.inr (.int, own_b m 0 2 1 0) : ACell), (.inr (.int, own_b m 0 0 0 0) : ACell), (.inr (.int, own_b m 0 0 0 2) : ACell), (.inr (.int, [.int 2]) : ACell), (.inr (.int, [.int 2, .int 0, .int 0, .int 0]) : ACell), (.inr (.int, [.int 1]) : ACell)]) := by
  refine e3 ?_
  refine s3_0 ?_
  refine s3_1 rfl ?_
  refine s3_2 ?_
  refine s3_3 rfl ?_
  refine s3_6 ?_
  refine s3_7 2 rfl (by decide) rfl ?_
  refine s3_8 rfl ?_
  refine s3_9 ?_
  refine s3_10 (fun h => absurd h (by decide)) (fun _ => ?_)
  refine s3_13 ?_
  refine s3_16 ?_
  refine s3_17 rfl ?_
  refine s3_20 ?_
  refine s3_21 1 rfl (by decide) rfl ?_
  refine s3_22 rfl ?_
  refine s3_23 ?_
  refine s3_9 ?_
  refine s3_10 (fun _ => ?_) (fun h => absurd h (by decide))
  refine s3_26 ?_
  refine s3_27 8 1 (by decide) rfl rfl ?_
  refine s3_29 rfl ?_
  refine s3_30 ?_
  refine s3_31 rfl ?_
  refine s3_33 ?_
  refine s3_34 rfl ?_
  refine s3_37 ?_
  refine s3_38 2 rfl (by decide) rfl ?_
  refine s3_39 rfl ?_
  refine s3_41 ?_
  refine s3_43 (fun h => absurd h (by decide)) (fun _ => ?_)
  refine s3_46 ?_
  refine s3_47 ?_
  refine s3_49 ?_
  refine s3_51 0 rfl (by decide) rfl ?_
  refine s3_52 ?_
  refine s3_55 ?_
  refine s3_56 rfl ?_
  refine s3_59 ?_
  refine s3_61 1 rfl (by decide) rfl ?_
  refine s3_62 rfl ?_
  refine s3_64 ?_
  refine s3_41 ?_
  refine s3_43 (fun _ => ?_) (fun h => absurd h (by decide))
  refine s3_67 ?_
  exact s3_68 ⟨rfl, rfl⟩
theorem own_r122 {m : Nat} : M4 ⟨0, 1, 4, 0⟩ [.ref 8, .int 2, .int 2, .int 1, .int 1, .int 0, .int 0, .int 0] [(.inl (0, [.ref 1, .ref 2, .ref 3, .ref 4, .ref 5]) : ACell), (.inr (.int, own_a 2 1) : ACell), (.inr (.int, own_a 2 1) : ACell), (.inr (.int, own_b m 0 2 1 0) : ACell), (.inr (.int, own_b m 0 0 0 0) : ACell), (.inr (.int, own_b m 0 0 0 2) : ACell), (.inr (.int, [.int 2]) : ACell), (.inr (.int, [.int 2, .int 0, .int 0, .int 0]) : ACell), (.inr (.int, [.int 1]) : ACell)] (Is (some (.int 1)) [(.inl (0, [.ref 1, .ref 2, .ref 3, .ref 4, .ref 5]) : ACell), (.inr (.int, own_a 2 1) : ACell), (.inr (.int, own_a 2 1) : ACell), (.inr (.int, own_b m 0 2 1 0) : ACell), (.inr (.int, own_b m 0 0 0 0) : ACell), (.inr (.int, own_b m 0 0 0 2) : ACell), (.inr (.int, [.int 2]) : ACell), (.inr (.int, [.int 2, .int 0, .int 0, .int 0]) : ACell), (.inr (.int, [.int 1]) : ACell), (.inr (.int, [.int 1, .int 0, .int 0, .int 0]) : ACell)]) := by
  refine e4 ?_
  refine s4_0 ?_
  refine s4_1 9 4 (by decide) rfl rfl ?_
  refine s4_3 rfl ?_
  refine s4_5 ?_
  refine s4_6 rfl ?_
  refine s4_8 ?_
  refine s4_9 ?_
  refine s4_10 (fun _ => ?_) (fun h => absurd h (by decide))
  refine s4_27 ?_
  refine s4_28 ?_
  refine s4_29 (fun h => absurd h (by decide)) (fun _ => ?_)
  refine s4_32 ?_
  refine s4_34 (fun h => absurd h (by decide)) (fun _ => ?_)
  refine s4_37 ?_
  refine s4_39 ?_
  refine s4_41 ?_
  refine s4_42 0 rfl (by decide) rfl ?_
  refine s4_43 ?_
  refine s4_46 ?_
  refine s4_47 ?_
  refine s4_48 (fun _ => ?_) (fun h => absurd h (by decide))
  refine s4_65 ?_
  refine s4_67 (fun _ => ?_) (fun h => absurd h (by decide))
  refine s4_84 ?_
  refine s4_85k 1 rfl rfl ?_
  refine s4_86 ?_
  refine s4_88 (fun h => absurd h (by decide)) (fun _ => ?_)
  refine s4_91 ?_
  refine s4_93 ?_
  refine s4_94 (fun h => absurd h (by decide)) (fun _ => ?_)
  refine s4_97 ?_
  refine s4_98 ?_
  refine s4_99 0 rfl (by decide) rfl ?_
  refine s4_100 ?_
  refine s4_102 ?_
  refine s4_103 0 rfl (by decide) rfl ?_
  refine s4_104 (fun h => absurd h (by decide)) (fun _ => ?_)
  refine s4_107 ?_
  refine s4_109 ?_
  refine s4_110 (fun _ => ?_) (fun h => absurd h (by decide))
  refine s4_123 ?_
  refine s4_125 ?_
  refine s4_126 (fun _ => ?_) (fun h => absurd h (by decide))
  refine s4_139 ?_
  refine s4_141 ?_
  refine s4_142 (fun _ => ?_) (fun h => absurd h (by decide))
  refine s4_155 ?_
  refine s4_156 ?_
  exact s4_160 ⟨rfl, rfl⟩
theorem own_r123 {m : Nat} : M5 ⟨0, 0, 0, 0⟩ [.ref 0, .int 3] [(.inl (0, [.ref 1, .ref 2, .ref 3, .ref 4, .ref 5]) : ACell), (.inr (.int, own_a 3 1) : ACell), (.inr (.int, own_a 3 1) : ACell), (.inr (.int, own_b m 0 2 0 1) : ACell), (.inr (.int, own_b m 0 0 3 0) : ACell), (.inr (.int, own_b m 0 0 0 0) : ACell)] (Is none [(.inl (0, [.ref 1, .ref 2, .ref 3, .ref 4, .ref 5]) : ACell), (.inr (.int, own_a 0 1) : ACell), (.inr (.int, own_a 0 1) : ACell), (.inr (.int, own_b m 0 2 0 0) : ACell), (.inr (.int, own_b m 0 0 3 0) : ACell), (.inr (.int, own_b m 0 0 0 0) : ACell)]) := by
  refine e5 ?_
  refine s5_0 ?_
  refine s5_1 rfl ?_
  refine s5_4 ?_
  refine s5_5 3 rfl (by decide) rfl ?_
  refine s5_6 rfl ?_
  refine s5_7 ?_
  refine s5_8 rfl ?_
  refine s5_11 ?_
  refine s5_12 3 rfl (by decide) rfl ?_
  refine s5_13 (fun h => absurd h (by decide)) (fun _ => ?_)
  refine s5_16 ?_
  refine s5_17 rfl ?_
  refine s5_20 ?_
  refine s5_21 ?_
  refine s5_22 rfl ?_
  refine s5_25 ?_
  refine s5_26 3 rfl (by decide) rfl ?_
  refine s5_27 1 rfl (by decide) rfl ?_
  refine s5_28 ?_
  refine s5_48 ?_
  refine s5_49 rfl ?_
  refine s5_52 ?_
  refine s5_53 3 rfl (by decide) rfl ?_
  refine s5_54 (fun h => absurd h (by decide)) (fun _ => ?_)
  refine s5_57 ?_
  refine s5_58 rfl ?_
  refine s5_61 ?_
  refine s5_62 ?_
  refine s5_63 rfl ?_
  refine s5_66 ?_
  refine s5_67 3 rfl (by decide) rfl ?_
  refine s5_68 1 rfl (by decide) rfl ?_
  refine s5_69 ?_
  refine s5_89 ?_
  refine s5_90 rfl ?_
  refine s5_93 ?_
  refine s5_94 ?_
  refine s5_95 3 rfl (by decide) rfl ?_
  exact s5_96 ⟨rfl, rfl⟩
theorem own_r124 {m : Nat} : M3 ⟨0, 1, 0, 0⟩ [.ref 0, .int 1] [(.inl (0, [.ref 1, .ref 2, .ref 3, .ref 4, .ref 5]) : ACell), (.inr (.int, own_a 0 1) : ACell), (.inr (.int, own_a 0 1) : ACell), (.inr (.int, own_b m 0 2 0 0) : ACell), (.inr (.int, own_b m 0 0 3 0) : ACell), (.inr (.int, own_b m 0 0 0 0) : ACell)] (Is (some (.ref 6)) [(.inl (0, [.ref 1, .ref 2, .ref 3, .ref 4, .ref 5]) : ACell), (.inr (.int, own_a 0 1) : ACell), (.inr (.int, own_a 0 1) : ACell), (.inr (.int, own_b m 0 2 0 0) : ACell), (.inr (.int, own_b m 0 0 3 0) : ACell), (.inr (.int, own_b m 0 0 0 0) : ACell), (.inr (.int, []) : ACell)]) := by
  refine e3 ?_
  refine s3_0 ?_
  refine s3_1 rfl ?_
  refine s3_2 ?_
  refine s3_3 rfl ?_
  refine s3_6 ?_
  refine s3_7 1 rfl (by decide) rfl ?_
  refine s3_8 rfl ?_
  refine s3_9 ?_
  refine s3_10 (fun _ => ?_) (fun h => absurd h (by decide))
  refine s3_26 ?_
  refine s3_27 6 0 (by decide) rfl rfl ?_
  refine s3_29 rfl ?_
  refine s3_30 ?_
  refine s3_31 rfl ?_
  refine s3_33 ?_
  refine s3_34 rfl ?_
  refine s3_37 ?_
  refine s3_38 1 rfl (by decide) rfl ?_
  refine s3_39 rfl ?_
  refine s3_41 ?_
  refine s3_43 (fun _ => ?_) (fun h => absurd h (by decide))
  refine s3_67 ?_
  exact s3_68 ⟨rfl, rfl⟩
theorem own_r125 {m : Nat} : M4 ⟨0, 1, 4, 0⟩ [.ref 6, .int 1, .int 2, .int 1, .int 1, .int 0, .int 1, .int 0] [(.inl (0, [.ref 1, .ref 2, .ref 3, .ref 4, .ref 5]) : ACell), (.inr (.int, own_a 0 1) : ACell), (.inr (.int, own_a 0 1) : ACell), (.inr (.int, own_b m 0 2 0 0) : ACell), (.inr (.int, own_b m 0 0 3 0) : ACell), (.inr (.int, own_b m 0 0 0 0) : ACell), (.inr (.int, []) : ACell)] (Is (some (.int 1)) [(.inl (0, [.ref 1, .ref 2, .ref 3, .ref 4, .ref 5]) : ACell), (.inr (.int, own_a 0 1) : ACell), (.inr (.int, own_a 0 1) : ACell), (.inr (.int, own_b m 0 2 0 0) : ACell), (.inr (.int, own_b m 0 0 3 0) : ACell), (.inr (.int, own_b m 0 0 0 0) : ACell), (.inr (.int, []) : ACell), (.inr (.int, [.int 0, .int 0, .int 0, .int 0]) : ACell)]) := by
  refine e4 ?_
  refine s4_0 ?_
  refine s4_1 7 4 (by decide) rfl rfl ?_
  refine s4_3 rfl ?_
  refine s4_5 ?_
  refine s4_6 rfl ?_
  refine s4_8 ?_
  refine s4_9 ?_
  refine s4_10 (fun h => absurd h (by decide)) (fun _ => ?_)
  refine s4_13 ?_
  refine s4_15 (fun _ => ?_) (fun h => absurd h (by decide))
  refine s4_27 ?_
  refine s4_28 ?_
  refine s4_29 (fun _ => ?_) (fun h => absurd h (by decide))
  refine s4_46 ?_
  refine s4_47 ?_
  refine s4_48 (fun h => absurd h (by decide)) (fun _ => ?_)
  refine s4_51 ?_
  refine s4_53 (fun _ => ?_) (fun h => absurd h (by decide))
  refine s4_65 ?_
  refine s4_67 (fun _ => ?_) (fun h => absurd h (by decide))
  refine s4_84 ?_
  refine s4_85k 0 rfl rfl ?_
  refine s4_86 ?_
  refine s4_88 (fun h => absurd h (by decide)) (fun _ => ?_)
  refine s4_91 ?_
  refine s4_93 ?_
  refine s4_94 (fun _ => ?_) (fun h => absurd h (by decide))
  refine s4_107 ?_
  refine s4_109 ?_
  refine s4_110 (fun _ => ?_) (fun h => absurd h (by decide))
  refine s4_123 ?_
  refine s4_125 ?_
  refine s4_126 (fun _ => ?_) (fun h => absurd h (by decide))
  refine s4_139 ?_
  refine s4_141 ?_
  refine s4_142 (fun _ => ?_) (fun h => absurd h (by decide))
  refine s4_155 ?_
  refine s4_156 ?_
  exact s4_160 ⟨rfl, rfl⟩
theorem own_r126 {m : Nat} : M3 ⟨0, 1, 1, 0⟩ [.ref 0, .int 2] [(.inl (0, [.ref 1, .ref 2, .ref 3, .ref 4, .ref 5]) : ACell), (.inr (.int, own_a 0 1) : ACell), (.inr (.int, own_a 0 1) : ACell), (.inr (.int, own_b m 0 2 0 0) : ACell), (.inr (.int, own_b m 0 0 3 0) : ACell), (.inr (.int, own_b m 0 0 0 0) : ACell), (.inr (.int, []) : ACell), (.inr (.int, [.int 0, .int 0, .int 0, .int 0]) : ACell)] (Is (some (.ref 8)) [(.inl (0, [.ref 1, .ref 2, .ref 3, .ref 4, .ref 5]) : ACell), (.inr (.int, own_a 0 1) : ACell), (.inr (.int, own_a 0 1) : ACell), (.inr (.int, own_b m 0 2 0 0) : ACell), (.inr (.int, own_b m 0 0 3 0) : ACell), (.inr (.int, own_b m 0 0 0 0) : ACell), (.inr (.int, []) : ACell), (.inr (.int, [.int 0, .int 0, .int 0, .int 0]) : ACell), (.inr (.int, [.int 1]) : ACell)]) := by
  refine e3 ?_
  refine s3_0 ?_
  refine s3_1 rfl ?_
  refine s3_2 ?_
  refine s3_3 rfl ?_
  refine s3_6 ?_
  refine s3_7 2 rfl (by decide) rfl ?_
  refine s3_8 rfl ?_
  refine s3_9 ?_
  refine s3_10 (fun h => absurd h (by decide)) (fun _ => ?_)
  refine s3_13 ?_
  refine s3_16 ?_
  refine s3_17 rfl ?_
  refine s3_20 ?_
  refine s3_21 1 rfl (by decide) rfl ?_
  refine s3_22 rfl ?_
  refine s3_23 ?_
  refine s3_9 ?_
  refine s3_10 (fun _ => ?_) (fun h => absurd h (by decide))
  refine s3_26 ?_
  refine s3_27 8 1 (by decide) rfl rfl ?_
  refine s3_29 rfl ?_
  refine s3_30 ?_
  refine s3_31 rfl ?_
  refine s3_33 ?_
  refine s3_34 rfl ?_
  refine s3_37 ?_
  refine s3_38 2 rfl (by decide) rfl ?_
  refine s3_39 rfl ?_
  refine s3_41 ?_
  refine s3_43 (fun h => absurd h (by decide)) (fun _ => ?_)
  refine s3_46 ?_
  refine s3_47 ?_
  refine s3_49 ?_
  refine s3_51 0 rfl (by decide) rfl ?_
  refine s3_52 ?_
  refine s3_55 ?_
  refine s3_56 rfl ?_
  refine s3_59 ?_
  refine s3_61 1 rfl (by decide) rfl ?_
  refine s3_62 rfl ?_
  refine s3_64 ?_
  refine s3_41 ?_
  refine s3_43 (fun _ => ?_) (fun h => absurd h (by decide))
  refine s3_67 ?_
  exact s3_68 ⟨rfl, rfl⟩
theorem own_r127 {m : Nat} : M4 ⟨0, 1, 4, 0⟩ [.ref 8, .int 2, .int 2, .int 1, .int 1, .int 0, .int 1, .int 0] [(.inl (0, [.ref 1, .ref 2, .ref 3, .ref 4, .ref 5]) : ACell), (.inr (.int, own_a 0 1) : ACell), (.inr (.int, own_a 0 1) : ACell), (.inr (.int, own_b m 0 2 0 0) : ACell), (.inr (.int, own_b m 0 0 3 0) : ACell), (.inr (.int, own_b m 0 0 0 0) : ACell), (.inr (.int, []) : ACell), (.inr (.int, [.int 0, .int 0, .int 0, .int 0]) : ACell), (.inr (.int, [.int 1]) : ACell)] (Is (some (.int 1)) [(.inl (0, [.ref 1, .ref 2, .ref 3, .ref 4, .ref 5]) : ACell), (.inr (.int, own_a 0 1) : ACell), (.inr (.int, own_a 0 1) : ACell), (.inr (.int, own_b m 0 2 0 0) : ACell), (.inr (.int, own_b m 0 0 3 0) : ACell), (.inr (.int, own_b m 0 0 0 0) : ACell), (.inr (.int, []) : ACell), (.inr (.int, [.int 0, .int 0, .int 0, .int 0]) : ACell), (.inr (.int, [.int 1]) : ACell), (.inr (.int, [.int 1, .int 0, .int 0, .int 0]) : ACell)]) := by
  refine e4 ?_
  refine s4_0 ?_
  refine s4_1 9 4 (by decide) rfl rfl ?_
  refine s4_3 rfl ?_
  refine s4_5 ?_
  refine s4_6 rfl ?_
  refine s4_8 ?_
  refine s4_9 ?_
  refine s4_10 (fun _ => ?_) (fun h => absurd h (by decide))
  refine s4_27 ?_
  refine s4_28 ?_
  refine s4_29 (fun h => absurd h (by decide)) (fun _ => ?_)
  refine s4_32 ?_
  refine s4_34 (fun h => absurd h (by decide)) (fun _ => ?_)
  refine s4_37 ?_
  refine s4_39 ?_
  refine s4_41 ?_
  refine s4_42 0 rfl (by decide) rfl ?_
  refine s4_43 ?_
  refine s4_46 ?_
  refine s4_47 ?_
  refine s4_48 (fun _ => ?_) (fun h => absurd h (by decide))
  refine s4_65 ?_
  refine s4_67 (fun _ => ?_) (fun h => absurd h (by decide))
  refine s4_84 ?_
  refine s4_85k 1 rfl rfl ?_
  refine s4_86 ?_
  refine s4_88 (fun h => absurd h (by decide)) (fun _ => ?_)
  refine s4_91 ?_
  refine s4_93 ?_
  refine s4_94 (fun h => absurd h (by decide)) (fun _ => ?_)
  refine s4_97 ?_
  refine s4_98 ?_
  refine s4_99 0 rfl (by decide) rfl ?_
  refine s4_100 ?_
  refine s4_102 ?_
  refine s4_103 0 rfl (by decide) rfl ?_
  refine s4_104 (fun h => absurd h (by decide)) (fun _ => ?_)
  refine s4_107 ?_
  refine s4_109 ?_
  refine s4_110 (fun _ => ?_) (fun h => absurd h (by decide))
  refine s4_123 ?_
  refine s4_125 ?_
  refine s4_126 (fun _ => ?_) (fun h => absurd h (by decide))
  refine s4_139 ?_
  refine s4_141 ?_
  refine s4_142 (fun _ => ?_) (fun h => absurd h (by decide))
  refine s4_155 ?_
  refine s4_156 ?_
  exact s4_160 ⟨rfl, rfl⟩
theorem own_r128 {m : Nat} : M5 ⟨0, 0, 0, 0⟩ [.ref 0, .int 1] [(.inl (0, [.ref 1, .ref 2, .ref 3, .ref 4, .ref 5]) : ACell), (.inr (.int, own_a 2 1) : ACell), (.inr (.int, own_a 2 1) : ACell), (.inr (.int, own_b m 0 2 1 0) : ACell), (.inr (.int, own_b m 0 0 0 0) : ACell), (.inr (.int, own_b m 0 0 0 2) : ACell)] (Is none [(.inl (0, [.ref 1, .ref 2, .ref 3, .ref 4, .ref 5]) : ACell), (.inr (.int, own_a 2 0) : ACell), (.inr (.int, own_a 2 0) : ACell), (.inr (.int, own_b m 0 0 1 0) : ACell), (.inr (.int, own_b m 0 0 0 0) : ACell), (.inr (.int, own_b m 0 0 0 2) : ACell)]) := by
  refine e5 ?_
  refine s5_0 ?_
  refine s5_1 rfl ?_
  refine s5_4 ?_
  refine s5_5 1 rfl (by decide) rfl ?_
  refine s5_6 rfl ?_
  refine s5_7 ?_
  refine s5_8 rfl ?_
  refine s5_11 ?_
  refine s5_12 1 rfl (by decide) rfl ?_
  refine s5_13 (fun h => absurd h (by decide)) (fun _ => ?_)
  refine s5_16 ?_
  refine s5_17 rfl ?_
  refine s5_20 ?_
  refine s5_21 ?_
  refine s5_22 rfl ?_
  refine s5_25 ?_
  refine s5_26 1 rfl (by decide) rfl ?_
  refine s5_27 2 rfl (by decide) rfl ?_
  refine s5_28 ?_
  refine s5_48 ?_
  refine s5_49 rfl ?_
  refine s5_52 ?_
  refine s5_53 1 rfl (by decide) rfl ?_
  refine s5_54 (fun h => absurd h (by decide)) (fun _ => ?_)
  refine s5_57 ?_
  refine s5_58 rfl ?_
  refine s5_61 ?_
  refine s5_62 ?_
  refine s5_63 rfl ?_
  refine s5_66 ?_
  refine s5_67 1 rfl (by decide) rfl ?_
  refine s5_68 2 rfl (by decide) rfl ?_
  refine s5_69 ?_
  refine s5_89 ?_
  refine s5_90 rfl ?_
  refine s5_93 ?_
  refine s5_94 ?_
  refine s5_95 1 rfl (by decide) rfl ?_
  exact s5_96 ⟨rfl, rfl⟩
theorem own_r129 {m : Nat} : M3 ⟨0, 1, 1, 0⟩ [.ref 0, .int 1] [(.inl (0, [.ref 1, .ref 2, .ref 3, .ref 4, .ref 5]) : ACell), (.inr (.int, own_a 2 0) : ACell), (.inr (.int, own_a 2 0) : ACell), (.inr (.int, own_b m 0 0 1 0) : ACell), (.inr (.int, own_b m 0 0 0 0) : ACell), (.inr (.int, own_b m 0 0 0 2) : ACell)] (Is (some (.ref 6)) [(.inl (0, [.ref 1, .ref 2, .ref 3, .ref 4, .ref 5]) : ACell), (.inr (.int, own_a 2 0) : ACell), (.inr (.int, own_a 2 0) : ACell), (.inr (.int, own_b m 0 0 1 0) : ACell), (.inr (.int, own_b m 0 0 0 0) : ACell), (.inr (.int, own_b m 0 0 0 2) : ACell), (.inr (.int, [.int 2]) : ACell)]) := by
  refine e3 ?_
  refine s3_0 ?_
  refine s3_1 rfl ?_
  refine s3_2 ?_
  refine s3_3 rfl ?_
  refine s3_6 ?_
  refine s3_7 1 rfl (by decide) rfl ?_
  refine s3_8 rfl ?_
  refine s3_9 ?_
  refine s3_10 (fun h => absurd h (by decide)) (fun _ => ?_)
  refine s3_13 ?_
  refine s3_16 ?_
  refine s3_17 rfl ?_
  refine s3_20 ?_
  refine s3_21 2 rfl (by decide) rfl ?_
  refine s3_22 rfl ?_
  refine s3_23 ?_
  refine s3_9 ?_
  refine s3_10 (fun _ => ?_) (fun h => absurd h (by decide))
  refine s3_26 ?_
  refine s3_27 6 1 (by decide) rfl rfl ?_
  refine s3_29 rfl ?_
  refine s3_30 ?_
  refine s3_31 rfl ?_
  refine s3_33 ?_
  refine s3_34 rfl ?_
  refine s3_37 ?_
  refine s3_38 1 rfl (by decide) rfl ?_
  refine s3_39 rfl ?_
  refine s3_41 ?_
  refine s3_43 (fun h => absurd h (by decide)) (fun _ => ?_)
  refine s3_46 ?_
  refine s3_47 ?_
  refine s3_49 ?_
  refine s3_51 0 rfl (by decide) rfl ?_
  refine s3_52 ?_
  refine s3_55 ?_
  refine s3_56 rfl ?_
  refine s3_59 ?_
  refine s3_61 2 rfl (by decide) rfl ?_
  refine s3_62 rfl ?_
  refine s3_64 ?_
  refine s3_41 ?_
  refine s3_43 (fun _ => ?_) (fun h => absurd h (by decide))
  refine s3_67 ?_
  exact s3_68 ⟨rfl, rfl⟩
theorem own_r130 {m : Nat} : M4 ⟨0, 1, 4, 0⟩ [.ref 6, .int 1, .int 2, .int 1, .int 1, .int 1, .int 0, .int 0] [(.inl (0, [.ref 1, .ref 2, .ref 3, .ref 4, .ref 5]) : ACell), (.inr (.int, own_a 2 0) : ACell), (.inr (.int, own_a 2 0) : ACell), (.inr (.int, own_b m 0 0 1 0) : ACell), (.inr (.int, own_b m 0 0 0 0) : ACell), (.inr (.int, own_b m 0 0 0 2) : ACell), (.inr (.int, [.int 2]) : ACell)] (Is (some (.int 1)) [(.inl (0, [.ref 1, .ref 2, .ref 3, .ref 4, .ref 5]) : ACell), (.inr (.int, own_a 2 0) : ACell), (.inr (.int, own_a 2 0) : ACell), (.inr (.int, own_b m 0 0 1 0) : ACell), (.inr (.int, own_b m 0 0 0 0) : ACell), (.inr (.int, own_b m 0 0 0 2) : ACell), (.inr (.int, [.int 2]) : ACell), (.inr (.int, [.int 2, .int 0, .int 0, .int 0]) : ACell)]) := by
  refine e4 ?_
  refine s4_0 ?_
  refine s4_1 7 4 (by decide) rfl rfl ?_
  refine s4_3 rfl ?_
  refine s4_5 ?_
  refine s4_6 rfl ?_
  refine s4_8 ?_
  refine s4_9 ?_
  refine s4_10 (fun h => absurd h (by decide)) (fun _ => ?_)
  refine s4_13 ?_
  refine s4_15 (fun _ => ?_) (fun h => absurd h (by decide))
  refine s4_27 ?_
  refine s4_28 ?_
  refine s4_29 (fun _ => ?_) (fun h => absurd h (by decide))
  refine s4_46 ?_
  refine s4_47 ?_
  refine s4_48 (fun h => absurd h (by decide)) (fun _ => ?_)
  refine s4_51 ?_
  refine s4_53 (fun h => absurd h (by decide)) (fun _ => ?_)
  refine s4_56 ?_
  refine s4_58 ?_
  refine s4_60 ?_
  refine s4_61 0 rfl (by decide) rfl ?_
  refine s4_62 ?_
  refine s4_65 ?_
  refine s4_67 (fun _ => ?_) (fun h => absurd h (by decide))
  refine s4_84 ?_
  refine s4_85k 1 rfl rfl ?_
  refine s4_86 ?_
  refine s4_88 (fun h => absurd h (by decide)) (fun _ => ?_)
  refine s4_91 ?_
  refine s4_93 ?_
  refine s4_94 (fun h => absurd h (by decide)) (fun _ => ?_)
  refine s4_97 ?_
  refine s4_98 ?_
  refine s4_99 0 rfl (by decide) rfl ?_
  refine s4_100 ?_
  refine s4_102 ?_
  refine s4_103 0 rfl (by decide) rfl ?_
  refine s4_104 (fun h => absurd h (by decide)) (fun _ => ?_)
  refine s4_107 ?_
  refine s4_109 ?_
  refine s4_110 (fun _ => ?_) (fun h => absurd h (by decide))
  refine s4_123 ?_
  refine s4_125 ?_
  refine s4_126 (fun _ => ?_) (fun h => absurd h (by decide))
  refine s4_139 ?_
  refine s4_141 ?_
  refine s4_142 (fun _ => ?_) (fun h => absurd h (by decide))
  refine s4_155 ?_
  refine s4_156 ?_
  exact s4_160 ⟨rfl, rfl⟩
theorem own_r131 {m : Nat} : M3 ⟨0, 1, 0, 0⟩ [.ref 0, .int 2] [(.inl (0, [.ref 1, .ref 2, .ref 3, .ref 4, .ref 5]) : ACell), (.inr (.int, own_a 2 0) : ACell), (.inr (.int, own_a 2 0) : ACell), (.inr (.int, own_b m 0 0 1 0) : ACell), (.inr (.int, own_b m 0 0 0 0) : ACell), (.inr (.int, own_b m 0 0 0 2) : ACell), (.inr (.int, [.int 2]) : ACell), (.inr (.int, [.int 2, .int 0, .int 0, .int 0]) : ACell)] (Is (some (.ref 8)) [(.inl (0, [.ref 1, .ref 2, .ref 3, .ref 4, .ref 5]) : ACell), (.inr (.int, own_a 2 0) : ACell), (.inr (.int, own_a 2 0) : ACell), (.inr (.int, own_b m 0 0 1 0) : ACell), (.inr (.int, own_b m 0 0 0 0) : ACell), (.inr (.int, own_b m 0 0 0 2) : ACell), (.inr (.int, [.int 2]) : ACell), (.inr (.int, [.int 2, .int 0, .int 0, .int 0]) : ACell), (.inr (.int, []) : ACell)]) := by
  refine e3 ?_
  refine s3_0 ?_
  refine s3_1 rfl ?_
  refine s3_2 ?_
  refine s3_3 rfl ?_
  refine s3_6 ?_
  refine s3_7 2 rfl (by decide) rfl ?_
  refine s3_8 rfl ?_
  refine s3_9 ?_
  refine s3_10 (fun _ => ?_) (fun h => absurd h (by decide))
  refine s3_26 ?_
  refine s3_27 8 0 (by decide) rfl rfl ?_
  refine s3_29 rfl ?_
  refine s3_30 ?_
  refine s3_31 rfl ?_
  refine s3_33 ?_
  refine s3_34 rfl ?_
  refine s3_37 ?_
  refine s3_38 2 rfl (by decide) rfl ?_
  refine s3_39 rfl ?_
  refine s3_41 ?_
  refine s3_43 (fun _ => ?_) (fun h => absurd h (by decide))
  refine s3_67 ?_
  exact s3_68 ⟨rfl, rfl⟩
theorem own_r132 {m : Nat} : M4 ⟨0, 1, 4, 0⟩ [.ref 8, .int 2, .int 2, .int 1, .int 1, .int 1, .int 0, .int 0] [(.inl (0, [.ref 1, .ref 2, .ref 3, .ref 4, .ref 5]) : ACell), (.inr (.int, own_a 2 0) : ACell), (.inr (.int, own_a 2 0) : ACell), (.inr (.int, own_b m 0 0 1 0) : ACell), (.inr (.int, own_b m 0 0 0 0) : ACell), (.inr (.int, own_b m 0 0 0 2) : ACell), (.inr (.int, [.int 2]) : ACell), (.inr (.int, [.int 2, .int 0, .int 0, .int 0]) : ACell), (.inr (.int, []) : ACell)] (Is (some (.int 1)) [(.inl (0, [.ref 1, .ref 2, .ref 3, .ref 4, .ref 5]) : ACell), (.inr (.int, own_a 2 0) : ACell), (.inr (.int, own_a 2 0) : ACell), (.inr (.int, own_b m 0 0 1 0) : ACell), (.inr (.int, own_b m 0 0 0 0) : ACell), (.inr (.int, own_b m 0 0 0 2) : ACell), (.inr (.int, [.int 2]) : ACell), (.inr (.int, [.int 2, .int 0, .int 0, .int 0]) : ACell), (.inr (.int, []) : ACell), (.inr (.int, [.int 0, .int 0, .int 0, .int 0]) : ACell)]) := by
  refine e4 ?_
  refine s4_0 ?_
  refine s4_1 9 4 (by decide) rfl rfl ?_
  refine s4_3 rfl ?_
  refine s4_5 ?_
  refine s4_6 rfl ?_
  refine s4_8 ?_
  refine s4_9 ?_
  refine s4_10 (fun _ => ?_) (fun h => absurd h (by decide))
  refine s4_27 ?_
  refine s4_28 ?_
  refine s4_29 (fun h => absurd h (by decide)) (fun _ => ?_)
  refine s4_32 ?_
  refine s4_34 (fun _ => ?_) (fun h => absurd h (by decide))
  refine s4_46 ?_
  refine s4_47 ?_
  refine s4_48 (fun _ => ?_) (fun h => absurd h (by decide))
  refine s4_65 ?_
  refine s4_67 (fun _ => ?_) (fun h => absurd h (by decide))
  refine s4_84 ?_
  refine s4_85k 0 rfl rfl ?_
  refine s4_86 ?_
  refine s4_88 (fun h => absurd h (by decide)) (fun _ => ?_)
  refine s4_91 ?_
  refine s4_93 ?_
  refine s4_94 (fun _ => ?_) (fun h => absurd h (by decide))
  refine s4_107 ?_
  refine s4_109 ?_
  refine s4_110 (fun _ => ?_) (fun h => absurd h (by decide))
  refine s4_123 ?_
  refine s4_125 ?_
  refine s4_126 (fun _ => ?_) (fun h => absurd h (by decide))
  refine s4_139 ?_
  refine s4_141 ?_
  refine s4_142 (fun _ => ?_) (fun h => absurd h (by decide))
  refine s4_155 ?_
  refine s4_156 ?_
  exact s4_160 ⟨rfl, rfl⟩
theorem own_r133 {m : Nat} : M5 ⟨0, 0, 0, 0⟩ [.ref 0, .int 1] [(.inl (0, [.ref 1, .ref 2, .ref 3, .ref 4, .ref 5]) : ACell), (.inr (.int, own_a 0 1) : ACell), (.inr (.int, own_a 0 1) : ACell), (.inr (.int, own_b m 0 2 0 0) : ACell), (.inr (.int, own_b m 0 0 3 0) : ACell), (.inr (.int, own_b m 0 0 0 0) : ACell)] (Is none [(.inl (0, [.ref 1, .ref 2, .ref 3, .ref 4, .ref 5]) : ACell), (.inr (.int, own_a 0 0) : ACell), (.inr (.int, own_a 0 0) : ACell), (.inr (.int, own_b m 0 0 0 0) : ACell), (.inr (.int, own_b m 0 0 3 0) : ACell), (.inr (.int, own_b m 0 0 0 0) : ACell)]) := by
  refine e5 ?_
  refine s5_0 ?_
  refine s5_1 rfl ?_
  refine s5_4 ?_
  refine s5_5 1 rfl (by decide) rfl ?_
  refine s5_6 rfl ?_
  refine s5_7 ?_
  refine s5_8 rfl ?_
  refine s5_11 ?_
  refine s5_12 1 rfl (by decide) rfl ?_
  refine s5_13 (fun h => absurd h (by decide)) (fun _ => ?_)
  refine s5_16 ?_
  refine s5_17 rfl ?_
  refine s5_20 ?_
  refine s5_21 ?_
  refine s5_22 rfl ?_
  refine s5_25 ?_
  refine s5_26 1 rfl (by decide) rfl ?_
  refine s5_27 2 rfl (by decide) rfl ?_
  refine s5_28 ?_
  refine s5_48 ?_
  refine s5_49 rfl ?_
  refine s5_52 ?_
  refine s5_53 1 rfl (by decide) rfl ?_
  refine s5_54 (fun h => absurd h (by decide)) (fun _ => ?_)
  refine s5_57 ?_
  refine s5_58 rfl ?_
  refine s5_61 ?_
  refine s5_62 ?_
  refine s5_63 rfl ?_
  refine s5_66 ?_
  refine s5_67 1 rfl (by decide) rfl ?_
  refine s5_68 2 rfl (by decide) rfl ?_
  refine s5_69 ?_
  refine s5_89 ?_
  refine s5_90 rfl ?_
  refine s5_93 ?_
  refine s5_94 ?_
  refine s5_95 1 rfl (by decide) rfl ?_
  exact s5_96 ⟨rfl, rfl⟩
theorem own_r134 {m : Nat} : M3 ⟨0, 1, 0, 0⟩ [.ref 0, .int 1] [(.inl (0, [.ref 1, .ref 2, .ref 3, .ref 4, .ref 5]) : ACell), (.inr (.int, own_a 0 0) : ACell), (.inr (.int, own_a 0 0) : ACell), (.inr (.int, own_b m 0 0 0 0) : ACell), (.inr (.int, own_b m 0 0 3 0) : ACell), (.inr (.int, own_b m 0 0 0 0) : ACell)] (Is (some (.ref 6)) [(.inl (0, [.ref 1, .ref 2, .ref 3, .ref 4, .ref 5]) : ACell), (.inr (.int, own_a 0 0) : ACell), (.inr (.int, own_a 0 0) : ACell), (.inr (.int, own_b m 0 0 0 0) : ACell), (.inr (.int, own_b m 0 0 3 0) : ACell), (.inr (.int, own_b m 0 0 0 0) : ACell), (.inr (.int, []) : ACell)]) := by
  refine e3 ?_
  refine s3_0 ?_
  refine s3_1 rfl ?_
  refine s3_2 ?_
  refine s3_3 rfl ?_
  refine s3_6 ?_
  refine s3_7 1 rfl (by decide) rfl ?_
  refine s3_8 rfl ?_
  refine s3_9 ?_
  refine s3_10 (fun _ => ?_) (fun h => absurd h (by decide))
  refine s3_26 ?_
  refine s3_27 6 0 (by decide) rfl rfl ?_
  refine s3_29 rfl ?_
  refine s3_30 ?_
  refine s3_31 rfl ?_
  refine s3_33 ?_
  refine s3_34 rfl ?_
  refine s3_37 ?_
  refine s3_38 1 rfl (by decide) rfl ?_
  refine s3_39 rfl ?_
  refine s3_41 ?_
  refine s3_43 (fun _ => ?_) (fun h => absurd h (by decide))
  refine s3_67 ?_
  exact s3_68 ⟨rfl, rfl⟩
theorem own_r135 {m : Nat} : M4 ⟨0, 1, 4, 0⟩ [.ref 6, .int 1, .int 2, .int 1, .int 1, .int 1, .int 1, .int 0] [(.inl (0, [.ref 1, .ref 2, .ref 3, .ref 4, .ref 5]) : ACell), (.inr (.int, own_a 0 0) : ACell), (.inr (.int, own_a 0 0) : ACell), (.inr (.int, own_b m 0 0 0 0) : ACell), (.inr (.int, own_b m 0 0 3 0) : ACell), (.inr (.int, own_b m 0 0 0 0) : ACell), (.inr (.int, []) : ACell)] (Is (some (.int 1)) [(.inl (0, [.ref 1, .ref 2, .ref 3, .ref 4, .ref 5]) : ACell), (.inr (.int, own_a 0 0) : ACell), (.inr (.int, own_a 0 0) : ACell), (.inr (.int, own_b m 0 0 0 0) : ACell), (.inr (.int, own_b m 0 0 3 0) : ACell), (.inr (.int, own_b m 0 0 0 0) : ACell), (.inr (.int, []) : ACell), (.inr (.int, [.int 0, .int 0, .int 0, .int 0]) : ACell)]) := by
  refine e4 ?_
  refine s4_0 ?_
  refine s4_1 7 4 (by decide) rfl rfl ?_
  refine s4_3 rfl ?_
  refine s4_5 ?_
  refine s4_6 rfl ?_
  refine s4_8 ?_
  refine s4_9 ?_
  refine s4_10 (fun h => absurd h (by decide)) (fun _ => ?_)
  refine s4_13 ?_
  refine s4_15 (fun _ => ?_) (fun h => absurd h (by decide))
  refine s4_27 ?_
  refine s4_28 ?_
  refine s4_29 (fun _ => ?_) (fun h => absurd h (by decide))
  refine s4_46 ?_
  refine s4_47 ?_
  refine s4_48 (fun h => absurd h (by decide)) (fun _ => ?_)
  refine s4_51 ?_
  refine s4_53 (fun _ => ?_) (fun h => absurd h (by decide))
  refine s4_65 ?_
  refine s4_67 (fun _ => ?_) (fun h => absurd h (by decide))
  refine s4_84 ?_
  refine s4_85k 0 rfl rfl ?_
  refine s4_86 ?_
  refine s4_88 (fun h => absurd h (by decide)) (fun _ => ?_)
  refine s4_91 ?_
  refine s4_93 ?_
  refine s4_94 (fun _ => ?_) (fun h => absurd h (by decide))
  refine s4_107 ?_
  refine s4_109 ?_
  refine s4_110 (fun _ => ?_) (fun h => absurd h (by decide))
  refine s4_123 ?_
  refine s4_125 ?_
  refine s4_126 (fun _ => ?_) (fun h => absurd h (by decide))
  refine s4_139 ?_
  refine s4_141 ?_
  refine s4_142 (fun _ => ?_) (fun h => absurd h (by decide))
  refine s4_155 ?_
  refine s4_156 ?_
  exact s4_160 ⟨rfl, rfl⟩
theorem own_r136 {m : Nat} : M3 ⟨0, 1, 0, 0⟩ [.ref 0, .int 2] [(.inl (0, [.ref 1, .ref 2, .ref 3, .ref 4, .ref 5]) : ACell), (.inr (.int, own_a 0 0) : ACell), (.inr (.int, own_a 0 0) : ACell), (.inr (.int, own_b m 0 0 0 0) : ACell), (.inr (.int, own_b m 0 0 3 0) : ACell), (.inr (.int, own_b m 0 0 0 0) : ACell), (.inr (.int, []) : ACell), (.inr (.int, [.int 0, .int 0, .int 0, .int 0]) : ACell)] (Is (some (.ref 8)) [(.inl (0, [.ref 1, .ref 2, .ref 3, .ref 4, .ref 5]) : ACell), (.inr (.int, own_a 0 0) : ACell), (.inr (.int, own_a 0 0) : ACell), (.inr (.int, own_b m 0 0 0 0) : ACell), (.inr (.int, own_b m 0 0 3 0) : ACell), (.inr (.int, own_b m 0 0 0 0) : ACell), (.inr (.int, []) : ACell), (.inr (.int, [.int 0, .int 0, .int 0, .int 0]) : ACell), (.inr (.int, []) : ACell)]) := by
  refine e3 ?_
  refine s3_0 ?_
  refine s3_1 rfl ?_
  refine s3_2 ?_
  refine s3_3 rfl ?_
  refine s3_6 ?_
  refine s3_7 2 rfl (by decide) rfl ?_
  refine s3_8 rfl ?_
  refine s3_9 ?_
  refine s3_10 (fun _ => ?_) (fun h => absurd h (by decide))
  refine s3_26 ?_
  refine s3_27 8 0 (by decide) rfl rfl ?_
  refine s3_29 rfl ?_
  refine s3_30 ?_
  refine s3_31 rfl ?_
  refine s3_33 ?_
  refine s3_34 rfl ?_
  refine s3_37 ?_
  refine s3_38 2 rfl (by decide) rfl ?_
  refine s3_39 rfl ?_
  refine s3_41 ?_
  refine s3_43 (fun _ => ?_) (fun h => absurd h (by decide))
  refine s3_67 ?_
  exact s3_68 ⟨rfl, rfl⟩
theorem own_r137 {m : Nat} : M4 ⟨0, 1, 4, 0⟩ [.ref 8, .int 2, .int 2, .int 1, .int 1, .int 1, .int 1, .int 0] [(.inl (0, [.ref 1, .ref 2, .ref 3, .ref 4, .ref 5]) : ACell), (.inr (.int, own_a 0 0) : ACell), (.inr (.int, own_a 0 0) : ACell), (.inr (.int, own_b m 0 0 0 0) : ACell), (.inr (.int, own_b m 0 0 3 0) : ACell), (.inr (.int, own_b m 0 0 0 0) : ACell), (.inr (.int, []) : ACell), (.inr (.int, [.int 0, .int 0, .int 0, .int 0]) : ACell), (.inr (.int, []) : ACell)] (Is (some (.int 1)) [(.inl (0, [.ref 1, .ref 2, .ref 3, .ref 4, .ref 5]) : ACell), (.inr (.int, own_a 0 0) : ACell), (.inr (.int, own_a 0 0) : ACell), (.inr (.int, own_b m 0 0 0 0) : ACell), (.inr (.int, own_b m 0 0 3 0) : ACell), (.inr (.int, own_b m 0 0 0 0) : ACell), (.inr (.int, []) : ACell), (.inr (.int, [.int 0, .int 0, .int 0, .int 0]) : ACell), (.inr (.int, []) : ACell), (.inr (.int, [.int 0, .int 0, .int 0, .int 0]) : ACell)]) := by
  refine e4 ?_
  refine s4_0 ?_
  refine s4_1 9 4 (by decide) rfl rfl ?_
  refine s4_3 rfl ?_
  refine s4_5 ?_
  refine s4_6 rfl ?_
  refine s4_8 ?_
  refine s4_9 ?_
  refine s4_10 (fun _ => ?_) (fun h => absurd h (by decide))
  refine s4_27 ?_
  refine s4_28 ?_
  refine s4_29 (fun h => absurd h (by decide)) (fun _ => ?_)
  refine s4_32 ?_
  refine s4_34 (fun _ => ?_) (fun h => absurd h (by decide))
  refine s4_46 ?_
  refine s4_47 ?_
  refine s4_48 (fun _ => ?_) (fun h => absurd h (by decide))
  refine s4_65 ?_
  refine s4_67 (fun _ => ?_) (fun h => absurd h (by decide))
  refine s4_84 ?_
  refine s4_85k 0 rfl rfl ?_
  refine s4_86 ?_
  refine s4_88 (fun h => absurd h (by decide)) (fun _ => ?_)
  refine s4_91 ?_
  refine s4_93 ?_
  refine s4_94 (fun _ => ?_) (fun h => absurd h (by decide))
  refine s4_107 ?_
  refine s4_109 ?_
  refine s4_110 (fun _ => ?_) (fun h => absurd h (by decide))
  refine s4_123 ?_
  refine s4_125 ?_
  refine s4_126 (fun _ => ?_) (fun h => absurd h (by decide))
  refine s4_139 ?_
  refine s4_141 ?_
  refine s4_142 (fun _ => ?_) (fun h => absurd h (by decide))
  refine s4_155 ?_
  refine s4_156 ?_
  exact s4_160 ⟨rfl, rfl⟩
theorem own_r138 {m : Nat} : M2 ⟨0, 0, 0, 0⟩ [.ref 0, .int 1, .int 1] [(.inl (0, [.ref 1, .ref 2, .ref 3, .ref 4, .ref 5]) : ACell), (.inr (.int, own_a 2 0) : ACell), (.inr (.int, own_a 2 0) : ACell), (.inr (.int, own_b m 0 0 1 0) : ACell), (.inr (.int, own_b m 0 0 0 0) : ACell), (.inr (.int, own_b m 0 0 0 2) : ACell)] (Is none [(.inl (0, [.ref 1, .ref 2, .ref 3, .ref 4, .ref 5]) : ACell), (.inr (.int, own_a 2 0) : ACell), (.inr (.int, own_a 1 0) : ACell), (.inr (.int, own_b m 0 1 1 0) : ACell), (.inr (.int, own_b m 0 2 0 0) : ACell), (.inr (.int, own_b m 0 0 1 2) : ACell)]) := by
  refine e2 ?_
  refine s2_0 ?_
  refine s2_1 ?_
  refine s2_2 rfl ?_
  refine s2_5k 16 rfl rfl ?_
  refine s2_6 (fun _ => ?_) (fun h => absurd h (by decide))
  refine s2_45 ?_
  refine s2_46 rfl ?_
  refine s2_49 ?_
  refine s2_50 ?_
  refine s2_51 1 rfl (by decide) rfl ?_
  refine s2_52 ?_
  refine s2_53 rfl ?_
  refine s2_56 ?_
  refine s2_57 ?_
  refine s2_58 rfl ?_
  refine s2_61 ?_
  refine s2_62 1 rfl (by decide) rfl ?_
  refine s2_63 1 rfl (by decide) rfl ?_
  refine s2_64 ?_
  refine s2_65 rfl ?_
  refine s2_68 ?_
  refine s2_69 ?_
  refine s2_70 1 rfl (by decide) rfl ?_
  refine s2_71 ?_
  refine s2_72 rfl ?_
  refine s2_75 ?_
  refine s2_76 1 rfl (by decide) rfl ?_
  refine s2_77 (fun _ => ?_) (fun h => absurd h (by decide))
  refine s2_90 ?_
  refine s2_91 rfl ?_
  refine s2_94 ?_
  refine s2_95 rfl ?_
  refine s2_98 ?_
  refine s2_99 1 rfl (by decide) rfl ?_
  refine s2_100 ?_
  refine s2_101 2 rfl (by decide) rfl ?_
  refine s2_102 ?_
  refine s2_103 rfl ?_
  refine s2_106 ?_
  refine s2_107 ?_
  refine s2_108 1 rfl (by decide) rfl ?_
  exact s2_109 ⟨rfl, rfl⟩
theorem own_r139 {m : Nat} : M3 ⟨0, 1, 2, 0⟩ [.ref 0, .int 1] [(.inl (0, [.ref 1, .ref 2, .ref 3, .ref 4, .ref 5]) : ACell), (.inr (.int, own_a 2 0) : ACell), (.inr (.int, own_a 1 0) : ACell), (.inr (.int, own_b m 0 1 1 0) : ACell), (.inr (.int, own_b m 0 2 0 0) : ACell), (.inr (.int, own_b m 0 0 1 2) : ACell)] (Is (some (.ref 6)) [(.inl (0, [.ref 1, .ref 2, .ref 3, .ref 4, .ref 5]) : ACell), (.inr (.int, own_a 2 0) : ACell), (.inr (.int, own_a 1 0) : ACell), (.inr (.int, own_b m 0 1 1 0) : ACell), (.inr (.int, own_b m 0 2 0 0) : ACell), (.inr (.int, own_b m 0 0 1 2) : ACell), (.inr (.int, [.int 2, .int 1]) : ACell)]) := by
  refine e3 ?_
  refine s3_0 ?_
  refine s3_1 rfl ?_
  refine s3_2 ?_
  refine s3_3 rfl ?_
  refine s3_6 ?_
  refine s3_7 1 rfl (by decide) rfl ?_
  refine s3_8 rfl ?_
  refine s3_9 ?_
  refine s3_10 (fun h => absurd h (by decide)) (fun _ => ?_)
  refine s3_13 ?_
  refine s3_16 ?_
  refine s3_17 rfl ?_
  refine s3_20 ?_
  refine s3_21 2 rfl (by decide) rfl ?_
  refine s3_22 rfl ?_
  refine s3_23 ?_
  refine s3_9 ?_
  refine s3_10 (fun h => absurd h (by decide)) (fun _ => ?_)
  refine s3_13 ?_
  refine s3_16 ?_
  refine s3_17 rfl ?_
  refine s3_20 ?_
  refine s3_21 1 rfl (by decide) rfl ?_
  refine s3_22 rfl ?_
  refine s3_23 ?_
  refine s3_9 ?_
  refine s3_10 (fun _ => ?_) (fun h => absurd h (by decide))
  refine s3_26 ?_
  refine s3_27 6 2 (by decide) rfl rfl ?_
  refine s3_29 rfl ?_
  refine s3_30 ?_
  refine s3_31 rfl ?_
  refine s3_33 ?_
  refine s3_34 rfl ?_
  refine s3_37 ?_
  refine s3_38 1 rfl (by decide) rfl ?_
  refine s3_39 rfl ?_
  refine s3_41 ?_
  refine s3_43 (fun h => absurd h (by decide)) (fun _ => ?_)
  refine s3_46 ?_
  refine s3_47 ?_
  refine s3_49 ?_
  refine s3_51 0 rfl (by decide) rfl ?_
  refine s3_52 ?_
  refine s3_55 ?_
  refine s3_56 rfl ?_
  refine s3_59 ?_
  refine s3_61 2 rfl (by decide) rfl ?_
  refine s3_62 rfl ?_
  refine s3_64 ?_
  refine s3_41 ?_
  refine s3_43 (fun h => absurd h (by decide)) (fun _ => ?_)
  refine s3_46 ?_
  refine s3_47 ?_
  refine s3_49 ?_
  refine s3_51 1 rfl (by decide) rfl ?_
  refine s3_52 ?_
  refine s3_55 ?_
  refine s3_56 rfl ?_
  refine s3_59 ?_
  refine s3_61 1 rfl (by decide) rfl ?_
  refine s3_62 rfl ?_
  refine s3_64 ?_
  refine s3_41 ?_
  refine s3_43 (fun _ => ?_) (fun h => absurd h (by decide))
  refine s3_67 ?_
  exact s3_68 ⟨rfl, rfl⟩
theorem own_r140 {m : Nat} : M4 ⟨0, 1, 4, 0⟩ [.ref 6, .int 1, .int 2, .int 1, .int 1, .int 1, .int 0, .int 1] [(.inl (0, [.ref 1, .ref 2, .ref 3, .ref 4, .ref 5]) : ACell), (.inr (.int, own_a 2 0) : ACell), (.inr (.int, own_a 1 0) : ACell), (.inr (.int, own_b m 0 1 1 0) : ACell), (.inr (.int, own_b m 0 2 0 0) : ACell), (.inr (.int, own_b m 0 0 1 2) : ACell), (.inr (.int, [.int 2, .int 1]) : ACell)] (Is (some (.int 1)) [(.inl (0, [.ref 1, .ref 2, .ref 3, .ref 4, .ref 5]) : ACell), (.inr (.int, own_a 2 0) : ACell), (.inr (.int, own_a 1 0) : ACell), (.inr (.int, own_b m 0 1 1 0) : ACell), (.inr (.int, own_b m 0 2 0 0) : ACell), (.inr (.int, own_b m 0 0 1 2) : ACell), (.inr (.int, [.int 2, .int 1]) : ACell), (.inr (.int, [.int 2, .int 1, .int 0, .int 0]) : ACell)]) := by
  refine e4 ?_
  refine s4_0 ?_
  refine s4_1 7 4 (by decide) rfl rfl ?_
  refine s4_3 rfl ?_
  refine s4_5 ?_
  refine s4_6 rfl ?_
  refine s4_8 ?_
  refine s4_9 ?_
  refine s4_10 (fun h => absurd h (by decide)) (fun _ => ?_)
  refine s4_13 ?_
  refine s4_15 (fun _ => ?_) (fun h => absurd h (by decide))
  refine s4_27 ?_
  refine s4_28 ?_
  refine s4_29 (fun _ => ?_) (fun h => absurd h (by decide))
  refine s4_46 ?_
  refine s4_47 ?_
  refine s4_48 (fun h => absurd h (by decide)) (fun _ => ?_)
  refine s4_51 ?_
  refine s4_53 (fun h => absurd h (by decide)) (fun _ => ?_)
  refine s4_56 ?_
  refine s4_58 ?_
  refine s4_60 ?_
  refine s4_61 0 rfl (by decide) rfl ?_
  refine s4_62 ?_
  refine s4_65 ?_
  refine s4_67 (fun h => absurd h (by decide)) (fun _ => ?_)
  refine s4_70 ?_
  refine s4_71 ?_
  refine s4_72 (fun h => absurd h (by decide)) (fun _ => ?_)
  refine s4_75 ?_
  refine s4_77 ?_
  refine s4_79 ?_
  refine s4_80 1 rfl (by decide) rfl ?_
  refine s4_81 ?_
  refine s4_84 ?_
  refine s4_85k 2 rfl rfl ?_
  refine s4_86 ?_
  refine s4_88 (fun h => absurd h (by decide)) (fun _ => ?_)
  refine s4_91 ?_
  refine s4_93 ?_
  refine s4_94 (fun h => absurd h (by decide)) (fun _ => ?_)
  refine s4_97 ?_
  refine s4_98 ?_
  refine s4_99 0 rfl (by decide) rfl ?_
  refine s4_100 ?_
  refine s4_102 ?_
  refine s4_103 0 rfl (by decide) rfl ?_
  refine s4_104 (fun h => absurd h (by decide)) (fun _ => ?_)
  refine s4_107 ?_
  refine s4_109 ?_
  refine s4_110 (fun h => absurd h (by decide)) (fun _ => ?_)
  refine s4_113 ?_
  refine s4_114 ?_
  refine s4_115 1 rfl (by decide) rfl ?_
  refine s4_116 ?_
  refine s4_118 ?_
  refine s4_119 1 rfl (by decide) rfl ?_
  refine s4_120 (fun h => absurd h (by decide)) (fun _ => ?_)
  refine s4_123 ?_
  refine s4_125 ?_
  refine s4_126 (fun _ => ?_) (fun h => absurd h (by decide))
  refine s4_139 ?_
  refine s4_141 ?_
  refine s4_142 (fun _ => ?_) (fun h => absurd h (by decide))
  refine s4_155 ?_
  refine s4_156 ?_
  exact s4_160 ⟨rfl, rfl⟩
theorem own_r141 {m : Nat} : M3 ⟨0, 1, 0, 0⟩ [.ref 0, .int 2] [(.inl (0, [.ref 1, .ref 2, .ref 3, .ref 4, .ref 5]) : ACell), (.inr (.int, own_a 2 0) : ACell), (.inr (.int, own_a 1 0) : ACell), (.inr (.int, own_b m 0 1 1 0) : ACell), (.inr (.int, own_b m 0 2 0 0) : ACell), (.inr (.int, own_b m 0 0 1 2) : ACell), (.inr (.int, [.int 2, .int 1]) : ACell), (.inr (.int, [.int 2, .int 1, .int 0, .int 0]) : ACell)] (Is (some (.ref 8)) [(.inl (0, [.ref 1, .ref 2, .ref 3, .ref 4, .ref 5]) : ACell), (.inr (.int, own_a 2 0) : ACell), (.inr (.int, own_a 1 0) : ACell), (.inr (.int, own_b m 0 1 1 0) : ACell), (.inr (.int, own_b m 0 2 0 0) : ACell), (.inr (.int, own_b m 0 0 1 2) : ACell), (.inr (.int, [.int 2, .int 1]) : ACell), (.inr (.int, [.int 2, .int 1, .int 0, .int 0]) : ACell), (.inr (.int, []) : ACell)]) := by
  refine e3 ?_
  refine s3_0 ?_
  refine s3_1 rfl ?_
  refine s3_2 ?_
  refine s3_3 rfl ?_
  refine s3_6 ?_
  refine s3_7 2 rfl (by decide) rfl ?_
  refine s3_8 rfl ?_
  refine s3_9 ?_
  refine s3_10 (fun _ => ?_) (fun h => absurd h (by decide))
  refine s3_26 ?_
  refine s3_27 8 0 (by decide) rfl rfl ?_
  refine s3_29 rfl ?_
  refine s3_30 ?_
  refine s3_31 rfl ?_
  refine s3_33 ?_
  refine s3_34 rfl ?_
  refine s3_37 ?_
  refine s3_38 2 rfl (by decide) rfl ?_
  refine s3_39 rfl ?_
  refine s3_41 ?_
  refine s3_43 (fun _ => ?_) (fun h => absurd h (by decide))
  refine s3_67 ?_
  exact s3_68 ⟨rfl, rfl⟩
theorem own_r142 {m : Nat} : M4 ⟨0, 1, 4, 0⟩ [.ref 8, .int 2, .int 2, .int 1, .int 1, .int 1, .int 0, .int 1] [(.inl (0, [.ref 1, .ref 2, .ref 3, .ref 4, .ref 5]) : ACell), (.inr (.int, own_a 2 0) : ACell), (.inr (.int, own_a 1 0) : ACell), (.inr (.int, own_b m 0 1 1 0) : ACell), (.inr (.int, own_b m 0 2 0 0) : ACell), (.inr (.int, own_b m 0 0 1 2) : ACell), (.inr (.int, [.int 2, .int 1]) : ACell), (.inr (.int, [.int 2, .int 1, .int 0, .int 0]) : ACell), (.inr (.int, []) : ACell)] (Is (some (.int 1)) [(.inl (0, [.ref 1, .ref 2, .ref 3, .ref 4, .ref 5]) : ACell), (.inr (.int, own_a 2 0) : ACell), (.inr (.int, own_a 1 0) : ACell), (.inr (.int, own_b m 0 1 1 0) : ACell), (.inr (.int, own_b m 0 2 0 0) : ACell), (.inr (.int, own_b m 0 0 1 2) : ACell), (.inr (.int, [.int 2, .int 1]) : ACell), (.inr (.int, [.int 2, .int 1, .int 0, .int 0]) : ACell), (.inr (.int, []) : ACell), (.inr (.int, [.int 0, .int 0, .int 0, .int 0]) : ACell)]) := by
  refine e4 ?_
  refine s4_0 ?_
  refine s4_1 9 4 (by decide) rfl rfl ?_
  refine s4_3 rfl ?_
  refine s4_5 ?_
  refine s4_6 rfl ?_
  refine s4_8 ?_
  refine s4_9 ?_
  refine s4_10 (fun _ => ?_) (fun h => absurd h (by decide))
  refine s4_27 ?_
  refine s4_28 ?_
  refine s4_29 (fun h => absurd h (by decide)) (fun _ => ?_)
  refine s4_32 ?_
  refine s4_34 (fun _ => ?_) (fun h => absurd h (by decide))
  refine s4_46 ?_
  refine s4_47 ?_
  refine s4_48 (fun _ => ?_) (fun h => absurd h (by decide))
  refine s4_65 ?_
  refine s4_67 (fun h => absurd h (by decide)) (fun _ => ?_)
  refine s4_70 ?_
  refine s4_71 ?_
  refine s4_72 (fun _ => ?_) (fun h => absurd h (by decide))
  refine s4_84 ?_
  refine s4_85k 0 rfl rfl ?_
  refine s4_86 ?_
  refine s4_88 (fun h => absurd h (by decide)) (fun _ => ?_)
  refine s4_91 ?_
  refine s4_93 ?_
  refine s4_94 (fun _ => ?_) (fun h => absurd h (by decide))
  refine s4_107 ?_
  refine s4_109 ?_
  refine s4_110 (fun _ => ?_) (fun h => absurd h (by decide))
  refine s4_123 ?_
  refine s4_125 ?_
  refine s4_126 (fun _ => ?_) (fun h => absurd h (by decide))
  refine s4_139 ?_
  refine s4_141 ?_
  refine s4_142 (fun _ => ?_) (fun h => absurd h (by decide))
  refine s4_155 ?_
  refine s4_156 ?_
  exact s4_160 ⟨rfl, rfl⟩
theorem own_r143 {m : Nat} : M2 ⟨0, 0, 0, 0⟩ [.ref 0, .int 1, .int 1] [(.inl (0, [.ref 1, .ref 2, .ref 3, .ref 4, .ref 5]) : ACell), (.inr (.int, own_a 0 0) : ACell), (.inr (.int, own_a 0 0) : ACell), (.inr (.int, own_b m 0 0 0 0) : ACell), (.inr (.int, own_b m 0 0 3 0) : ACell), (.inr (.int, own_b m 0 0 0 0) : ACell)] (Is none [(.inl (0, [.ref 1, .ref 2, .ref 3, .ref 4, .ref 5]) : ACell), (.inr (.int, own_a 1 0) : ACell), (.inr (.int, own_a 1 0) : ACell), (.inr (.int, own_b m 0 1 0 0) : ACell), (.inr (.int, own_b m 0 0 3 0) : ACell), (.inr (.int, own_b m 0 0 0 0) : ACell)]) := by
  refine e2 ?_
  refine s2_0 ?_
  refine s2_1 ?_
  refine s2_2 rfl ?_
  refine s2_5k 16 rfl rfl ?_
  refine s2_6 (fun _ => ?_) (fun h => absurd h (by decide))
  refine s2_45 ?_
  refine s2_46 rfl ?_
  refine s2_49 ?_
  refine s2_50 ?_
  refine s2_51 1 rfl (by decide) rfl ?_
  refine s2_52 ?_
  refine s2_53 rfl ?_
  refine s2_56 ?_
  refine s2_57 ?_
  refine s2_58 rfl ?_
  refine s2_61 ?_
  refine s2_62 1 rfl (by decide) rfl ?_
  refine s2_63 1 rfl (by decide) rfl ?_
  refine s2_64 ?_
  refine s2_65 rfl ?_
  refine s2_68 ?_
  refine s2_69 ?_
  refine s2_70 1 rfl (by decide) rfl ?_
  refine s2_71 ?_
  refine s2_72 rfl ?_
  refine s2_75 ?_
  refine s2_76 1 rfl (by decide) rfl ?_
  refine s2_77 (fun h => absurd h (by decide)) (fun _ => ?_)
  refine s2_80 ?_
  refine s2_81 rfl ?_
  refine s2_84 ?_
  refine s2_85 ?_
  refine s2_86 1 rfl (by decide) rfl ?_
  refine s2_87 ?_
  refine s2_102 ?_
  refine s2_103 rfl ?_
  refine s2_106 ?_
  refine s2_107 ?_
  refine s2_108 1 rfl (by decide) rfl ?_
  exact s2_109 ⟨rfl, rfl⟩
theorem own_r144 {m : Nat} : M3 ⟨0, 1, 1, 0⟩ [.ref 0, .int 1] [(.inl (0, [.ref 1, .ref 2, .ref 3, .ref 4, .ref 5]) : ACell), (.inr (.int, own_a 1 0) : ACell), (.inr (.int, own_a 1 0) : ACell), (.inr (.int, own_b m 0 1 0 0) : ACell), (.inr (.int, own_b m 0 0 3 0) : ACell), (.inr (.int, own_b m 0 0 0 0) : ACell)] (Is (some (.ref 6)) [(.inl (0, [.ref 1, .ref 2, .ref 3, .ref 4, .ref 5]) : ACell), (.inr (.int, own_a 1 0) : ACell), (.inr (.int, own_a 1 0) : ACell), (.inr (.int, own_b m 0 1 0 0) : ACell), (.inr (.int, own_b m 0 0 3 0) : ACell), (.inr (.int, own_b m 0 0 0 0) : ACell), (.inr (.int, [.int 1]) : ACell)]) := by
  refine e3 ?_
  refine s3_0 ?_
  refine s3_1 rfl ?_
  refine s3_2 ?_
  refine s3_3 rfl ?_
  refine s3_6 ?_
  refine s3_7 1 rfl (by decide) rfl ?_
  refine s3_8 rfl ?_
  refine s3_9 ?_
  refine s3_10 (fun h => absurd h (by decide)) (fun _ => ?_)
  refine s3_13 ?_
  refine s3_16 ?_
  refine s3_17 rfl ?_
  refine s3_20 ?_
  refine s3_21 1 rfl (by decide) rfl ?_
  refine s3_22 rfl ?_
  refine s3_23 ?_
  refine s3_9 ?_
  refine s3_10 (fun _ => ?_) (fun h => absurd h (by decide))
  refine s3_26 ?_
  refine s3_27 6 1 (by decide) rfl rfl ?_
  refine s3_29 rfl ?_
  refine s3_30 ?_
  refine s3_31 rfl ?_
  refine s3_33 ?_
  refine s3_34 rfl ?_
  refine s3_37 ?_
  refine s3_38 1 rfl (by decide) rfl ?_
  refine s3_39 rfl ?_
  refine s3_41 ?_
  refine s3_43 (fun h => absurd h (by decide)) (fun _ => ?_)
  refine s3_46 ?_
  refine s3_47 ?_
  refine s3_49 ?_
  refine s3_51 0 rfl (by decide) rfl ?_
  refine s3_52 ?_
  refine s3_55 ?_
  refine s3_56 rfl ?_
  refine s3_59 ?_
  refine s3_61 1 rfl (by decide) rfl ?_
  refine s3_62 rfl ?_
  refine s3_64 ?_
  refine s3_41 ?_
  refine s3_43 (fun _ => ?_) (fun h => absurd h (by decide))
  refine s3_67 ?_
  exact s3_68 ⟨rfl, rfl⟩
theorem own_r145 {m : Nat} : M4 ⟨0, 1, 4, 0⟩ [.ref 6, .int 1, .int 2, .int 1, .int 1, .int 1, .int 1, .int 1] [(.inl (0, [.ref 1, .ref 2, .ref 3, .ref 4, .ref 5]) : ACell), (.inr (.int, own_a 1 0) : ACell), (.inr (.int, own_a 1 0) : ACell), (.inr (.int, own_b m 0 1 0 0) : ACell), (.inr (.int, own_b m 0 0 3 0) : ACell), (.inr (.int, own_b m 0 0 0 0) : ACell), (.inr (.int, [.int 1]) : ACell)] (Is (some (.int 1)) [(.inl (0, [.ref 1, .ref 2, .ref 3, .ref 4, .ref 5]) : ACell), (.inr (.int, own_a 1 0) : ACell), (.inr (.int, own_a 1 0) : ACell), (.inr (.int, own_b m 0 1 0 0) : ACell), (.inr (.int, own_b m 0 0 3 0) : ACell), (.inr (.int, own_b m 0 0 0 0) : ACell), (.inr (.int, [.int 1]) : ACell), (.inr (.int, [.int 1, .int 0, .int 0, .int 0]) : ACell)]) := by
  refine e4 ?_
  refine s4_0 ?_
  refine s4_1 7 4 (by decide) rfl rfl ?_
  refine s4_3 rfl ?_
  refine s4_5 ?_
  refine s4_6 rfl ?_
  refine s4_8 ?_
  refine s4_9 ?_
  refine s4_10 (fun h => absurd h (by decide)) (fun _ => ?_)
  refine s4_13 ?_
  refine s4_15 (fun _ => ?_) (fun h => absurd h (by decide))
  refine s4_27 ?_
  refine s4_28 ?_
  refine s4_29 (fun _ => ?_) (fun h => absurd h (by decide))
  refine s4_46 ?_
  refine s4_47 ?_
  refine s4_48 (fun h => absurd h (by decide)) (fun _ => ?_)
  refine s4_51 ?_
  refine s4_53 (fun _ => ?_) (fun h => absurd h (by decide))
  refine s4_65 ?_
  refine s4_67 (fun h => absurd h (by decide)) (fun _ => ?_)
  refine s4_70 ?_
  refine s4_71 ?_
  refine s4_72 (fun h => absurd h (by decide)) (fun _ => ?_)
  refine s4_75 ?_
  refine s4_77 ?_
  refine s4_79 ?_
  refine s4_80 0 rfl (by decide) rfl ?_
  refine s4_81 ?_
  refine s4_84 ?_
  refine s4_85k 1 rfl rfl ?_
  refine s4_86 ?_
  refine s4_88 (fun h => absurd h (by decide)) (fun _ => ?_)
  refine s4_91 ?_
  refine s4_93 ?_
  refine s4_94 (fun h => absurd h (by decide)) (fun _ => ?_)
  refine s4_97 ?_
  refine s4_98 ?_
  refine s4_99 0 rfl (by decide) rfl ?_
  refine s4_100 ?_
  refine s4_102 ?_
  refine s4_103 0 rfl (by decide) rfl ?_
  refine s4_104 (fun h => absurd h (by decide)) (fun _ => ?_)
  refine s4_107 ?_
  refine s4_109 ?_
  refine s4_110 (fun _ => ?_) (fun h => absurd h (by decide))
  refine s4_123 ?_
  refine s4_125 ?_
  refine s4_126 (fun _ => ?_) (fun h => absurd h (by decide))
  refine s4_139 ?_
  refine s4_141 ?_
  refine s4_142 (fun _ => ?_) (fun h => absurd h (by decide))
  refine s4_155 ?_
  refine s4_156 ?_
  exact s4_160 ⟨rfl, rfl⟩
theorem own_r146 {m : Nat} : M3 ⟨0, 1, 0, 0⟩ [.ref 0, .int 2] [(.inl (0, [.ref 1, .ref 2, .ref 3, .ref 4, .ref 5]) : ACell), (.inr (.int, own_a 1 0) : ACell), (.inr (.int, own_a 1 0) : ACell), (.inr (.int, own_b m 0 1 0 0) : ACell), (.inr (.int, own_b m 0 0 3 0) : ACell), (.inr (.int, own_b m 0 0 0 0) : ACell), (.inr (.int, [.int 1]) : ACell), (.inr (.int, [.int 1, .int 0, .int 0, .int 0]) : ACell)] (Is (some (.ref 8)) [(.inl (0, [.ref 1, .ref 2, .ref 3, .ref 4, .ref 5]) : ACell), (.inr (.int, own_a 1 0) : ACell), (.inr (.int, own_a 1 0) : ACell), (.inr (.int, own_b m 0 1 0 0) : ACell), (.inr (.int, own_b m 0 0 3 0) : ACell), (.inr (.int, own_b m 0 0 0 0) : ACell), (.inr (.int, [.int 1]) : ACell), (.inr (.int, [.int 1, .int 0, .int 0, .int 0]) : ACell), (.inr (.int, []) : ACell)]) := by
  refine e3 ?_
  refine s3_0 ?_
  refine s3_1 rfl ?_
  refine s3_2 ?_
  refine s3_3 rfl ?_
  refine s3_6 ?_
  refine s3_7 2 rfl (by decide) rfl ?_
  refine s3_8 rfl ?_
  refine s3_9 ?_
  refine s3_10 (fun _ => ?_) (fun h => absurd h (by decide))
  refine s3_26 ?_
  refine s3_27 8 0 (by decide) rfl rfl ?_
  refine s3_29 rfl ?_
  refine s3_30 ?_
  refine s3_31 rfl ?_
  refine s3_33 ?_
  refine s3_34 rfl ?_
  refine s3_37 ?_
  refine s3_38 2 rfl (by decide) rfl ?_
  refine s3_39 rfl ?_
  refine s3_41 ?_
  refine s3_43 (fun _ => ?_) (fun h => absurd h (by decide))
  refine s3_67 ?_
  exact s3_68 ⟨rfl, rfl⟩
theorem own_r147 {m : Nat} : M4 ⟨0, 1, 4, 0⟩ [.ref 8, .int 2, .int 2, .int 1, .int 1, .int 1, .int 1, .int 1] [(.inl (0, [.ref 1, .ref 2, .ref 3, .ref 4, .ref 5]) : ACell), (.inr (.int, own_a 1 0) : ACell), (.inr (.int, own_a 1 0) : ACell), (.inr (.int, own_b m 0 1 0 0) : ACell), (.inr (.int, own_b m 0 0 3 0) : ACell), (.inr (.int, own_b m 0 0 0 0) : ACell), (.inr (.int, [.int 1]) : ACell), (.inr (.int, [.int 1, .int 0, .int 0, .int 0]) : ACell), (.inr (.int, []) : ACell)] (Is (some (.int 1)) [(.inl (0, [.ref 1, .ref 2, .ref 3, .ref 4, .ref 5]) : ACell), (.inr (.int, own_a 1 0) : ACell), (.inr (.int, own_a 1 0) : ACell), (.inr (.int, own_b m 0 1 0 0) : ACell), (.inr (.int, own_b m 0 0 3 0) : ACell), (.inr (.int, own_b m 0 0 0 0) : ACell), (.inr (.int, [.int 1]) : ACell), (.inr (.int, [.int 1, .int 0, .int 0, .int 0]) : ACell), (.inr (.int, []) : ACell), (.inr (.int, [.int 0, .int 0, .int 0, .int 0]) : ACell)]) := by
  refine e4 ?_
  refine s4_0 ?_
  refine s4_1 9 4 (by decide) rfl rfl ?_
  refine s4_3 rfl ?_
  refine s4_5 ?_
  refine s4_6 rfl ?_
  refine s4_8 ?_
  refine s4_9 ?_
  refine s4_10 (fun _ => ?_) (fun h => absurd h (by decide))
  refine s4_27 ?_
  refine s4_28 ?_
  refine s4_29 (fun h => absurd h (by decide)) (fun _ => ?_)
  refine s4_32 ?_
  refine s4_34 (fun _ => ?_) (fun h => absurd h (by decide))
  refine s4_46 ?_
  refine s4_47 ?_
  refine s4_48 (fun _ => ?_) (fun h => absurd h (by decide))
  refine s4_65 ?_
  refine s4_67 (fun h => absurd h (by decide)) (fun _ => ?_)
  refine s4_70 ?_
  refine s4_71 ?_
  refine s4_72 (fun _ => ?_) (fun h => absurd h (by decide))
  refine s4_84 ?_
  refine s4_85k 0 rfl rfl ?_
  refine s4_86 ?_
  refine s4_88 (fun h => absurd h (by decide)) (fun _ => ?_)
  refine s4_91 ?_
  refine s4_93 ?_
  refine s4_94 (fun _ => ?_) (fun h => absurd h (by decide))
  refine s4_107 ?_
  refine s4_109 ?_
  refine s4_110 (fun _ => ?_) (fun h => absurd h (by decide))
  refine s4_123 ?_
  refine s4_125 ?_
  refine s4_126 (fun _ => ?_) (fun h => absurd h (by decide))
  refine s4_139 ?_
  refine s4_141 ?_
  refine s4_142 (fun _ => ?_) (fun h => absurd h (by decide))
  refine s4_155 ?_
  refine s4_156 ?_
  exact s4_160 ⟨rfl, rfl⟩
theorem own_r148 {m : Nat} : M2 ⟨0, 0, 0, 0⟩ [.ref 0, .int 2, .int 2] [(.inl (0, [.ref 1, .ref 2, .ref 3, .ref 4, .ref 5]) : ACell), (.inr (.int, own_a 3 1) : ACell), (.inr (.int, own_a 3 1) : ACell), (.inr (.int, own_b m 0 2 0 1) : ACell), (.inr (.int, own_b m 0 0 0 0) : ACell), (.inr (.int, own_b m 0 0 0 0) : ACell)] (Is none [(.inl (0, [.ref 1, .ref 2, .ref 3, .ref 4, .ref 5]) : ACell), (.inr (.int, own_a 3 1) : ACell), (.inr (.int, own_a 3 2) : ACell), (.inr (.int, own_b m 0 2 2 1) : ACell), (.inr (.int, own_b m 0 0 1 0) : ACell), (.inr (.int, own_b m 0 2 0 0) : ACell)]) := by
  refine e2 ?_
  refine s2_0 ?_
  refine s2_1 ?_
  refine s2_2 rfl ?_
  refine s2_5k 16 rfl rfl ?_
  refine s2_6 (fun _ => ?_) (fun h => absurd h (by decide))
  refine s2_45 ?_
  refine s2_46 rfl ?_
  refine s2_49 ?_
  refine s2_50 ?_
  refine s2_51 2 rfl (by decide) rfl ?_
  refine s2_52 ?_
  refine s2_53 rfl ?_
  refine s2_56 ?_
  refine s2_57 ?_
  refine s2_58 rfl ?_
  refine s2_61 ?_
  refine s2_62 2 rfl (by decide) rfl ?_
  refine s2_63 2 rfl (by decide) rfl ?_
  refine s2_64 ?_
  refine s2_65 rfl ?_
  refine s2_68 ?_
  refine s2_69 ?_
  refine s2_70 2 rfl (by decide) rfl ?_
  refine s2_71 ?_
  refine s2_72 rfl ?_
  refine s2_75 ?_
  refine s2_76 2 rfl (by decide) rfl ?_
  refine s2_77 (fun _ => ?_) (fun h => absurd h (by decide))
  refine s2_90 ?_
  refine s2_91 rfl ?_
  refine s2_94 ?_
  refine s2_95 rfl ?_
  refine s2_98 ?_
  refine s2_99 2 rfl (by decide) rfl ?_
  refine s2_100 ?_
  refine s2_101 1 rfl (by decide) rfl ?_
  refine s2_102 ?_
  refine s2_103 rfl ?_
  refine s2_106 ?_
  refine s2_107 ?_
  refine s2_108 2 rfl (by decide) rfl ?_
  exact s2_109 ⟨rfl, rfl⟩
theorem own_r149 {m : Nat} : M3 ⟨0, 1, 1, 0⟩ [.ref 0, .int 1] [(.inl (0, [.ref 1, .ref 2, .ref 3, .ref 4, .ref 5]) : ACell), (.inr (.int, own_a 3 1) : ACell), (.inr (.int, own_a 3 2) : ACell), (.inr (.int, own_b m 0 2 2 1) : ACell), (.inr (.int, own_b m 0 0 1 0) : ACell), (.inr (.int, own_b m 0 2 0 0) : ACell)] (Is (some (.ref 6)) [(.inl (0, [.ref 1, .ref 2, .ref 3, .ref 4, .ref 5]) : ACell), (.inr (.int, own_a 3 1) : ACell), (.inr (.int, own_a 3 2) : ACell), (.inr (.int, own_b m 0 2 2 1) : ACell), (.inr (.int, own_b m 0 0 1 0) : ACell), (.inr (.int, own_b m 0 2 0 0) : ACell), (.inr (.int, [.int 3]) : ACell)]) := by
  refine e3 ?_
  refine s3_0 ?_
  refine s3_1 rfl ?_
  refine s3_2 ?_
  refine s3_3 rfl ?_
  refine s3_6 ?_
  refine s3_7 1 rfl (by decide) rfl ?_
  refine s3_8 rfl ?_
  refine s3_9 ?_
  refine s3_10 (fun h => absurd h (by decide)) (fun _ => ?_)
  refine s3_13 ?_
  refine s3_16 ?_
  refine s3_17 rfl ?_
  refine s3_20 ?_
  refine s3_21 3 rfl (by decide) rfl ?_
  refine s3_22 rfl ?_
  refine s3_23 ?_
  refine s3_9 ?_
  refine s3_10 (fun _ => ?_) (fun h => absurd h (by decide))
  refine s3_26 ?_
  refine s3_27 6 1 (by decide) rfl rfl ?_
  refine s3_29 rfl ?_
  refine s3_30 ?_
  refine s3_31 rfl ?_
  refine s3_33 ?_
  refine s3_34 rfl ?_
  refine s3_37 ?_
  refine s3_38 1 rfl (by decide) rfl ?_
  refine s3_39 rfl ?_
  refine s3_41 ?_
  refine s3_43 (fun h => absurd h (by decide)) (fun _ => ?_)
  refine s3_46 ?_
  refine s3_47 ?_
  refine s3_49 ?_
  refine s3_51 0 rfl (by decide) rfl ?_
  refine s3_52 ?_
  refine s3_55 ?_
  refine s3_56 rfl ?_
  refine s3_59 ?_
  refine s3_61 3 rfl (by decide) rfl ?_
  refine s3_62 rfl ?_
  refine s3_64 ?_
  refine s3_41 ?_
  refine s3_43 (fun _ => ?_) (fun h => absurd h (by decide))
  refine s3_67 ?_
  exact s3_68 ⟨rfl, rfl⟩
theorem own_r150 {m : Nat} : M4 ⟨0, 1, 4, 0⟩ [.ref 6, .int 1, .int 2, .int 2, .int 0, .int 0, .int 0, .int 0] [(.inl (0, [.ref 1, .ref 2, .ref 3, .ref 4, .ref 5]) : ACell), (.inr (.int, own_a 3 1) : ACell), (.inr (.int, own_a 3 2) : ACell), (.inr (.int, own_b m 0 2 2 1) : ACell), (.inr (.int, own_b m 0 0 1 0) : ACell), (.inr (.int, own_b m 0 2 0 0) : ACell), (.inr (.int, [.int 3]) : ACell)] (Is (some (.int 1)) [(.inl (0, [.ref 1, .ref 2, .ref 3, .ref 4, .ref 5]) : ACell), (.inr (.int, own_a 3 1) : ACell), (.inr (.int, own_a 3 2) : ACell), (.inr (.int, own_b m 0 2 2 1) : ACell), (.inr (.int, own_b m 0 0 1 0) : ACell), (.inr (.int, own_b m 0 2 0 0) : ACell), (.inr (.int, [.int 3]) : ACell), (.inr (.int, [.int 3, .int 0, .int 0, .int 0]) : ACell)]) := by
  refine e4 ?_
  refine s4_0 ?_
  refine s4_1 7 4 (by decide) rfl rfl ?_
  refine s4_3 rfl ?_
  refine s4_5 ?_
  refine s4_6 rfl ?_
  refine s4_8 ?_
  refine s4_9 ?_
  refine s4_10 (fun h => absurd h (by decide)) (fun _ => ?_)
  refine s4_13 ?_
  refine s4_15 (fun h => absurd h (by decide)) (fun _ => ?_)
  refine s4_18 ?_
  refine s4_20 ?_
  refine s4_22 ?_
  refine s4_23 0 rfl (by decide) rfl ?_
  refine s4_24 ?_
  refine s4_27 ?_
  refine s4_28 ?_
  refine s4_29 (fun _ => ?_) (fun h => absurd h (by decide))
  refine s4_46 ?_
  refine s4_47 ?_
  refine s4_48 (fun _ => ?_) (fun h => absurd h (by decide))
  refine s4_65 ?_
  refine s4_67 (fun _ => ?_) (fun h => absurd h (by decide))
  refine s4_84 ?_
  refine s4_85k 1 rfl rfl ?_
  refine s4_86 ?_
  refine s4_88 (fun h => absurd h (by decide)) (fun _ => ?_)
  refine s4_91 ?_
  refine s4_93 ?_
  refine s4_94 (fun h => absurd h (by decide)) (fun _ => ?_)
  refine s4_97 ?_
  refine s4_98 ?_
  refine s4_99 0 rfl (by decide) rfl ?_
  refine s4_100 ?_
  refine s4_102 ?_
  refine s4_103 0 rfl (by decide) rfl ?_
  refine s4_104 (fun h => absurd h (by decide)) (fun _ => ?_)
  refine s4_107 ?_
  refine s4_109 ?_
  refine s4_110 (fun _ => ?_) (fun h => absurd h (by decide))
  refine s4_123 ?_
  refine s4_125 ?_
  refine s4_126 (fun _ => ?_) (fun h => absurd h (by decide))
  refine s4_139 ?_
  refine s4_141 ?_
  refine s4_142 (fun _ => ?_) (fun h => absurd h (by decide))
  refine s4_155 ?_
  refine s4_156 ?_
  exact s4_160 ⟨rfl, rfl⟩
theorem own_r151 {m : Nat} : M3 ⟨0, 1, 2, 0⟩ [.ref 0, .int 2] [(.inl (0, [.ref 1, .ref 2, .ref 3, .ref 4, .ref 5]) : ACell), (.inr (.int, own_a 3 1) : ACell), (.inr (.int, own_a 3 2) : ACell), (.inr (.int, own_b m 0 2 2 1) : ACell), (.inr (.int, own_b m 0 0 1 0) : ACell), (.inr (.int, own_b m 0 2 0 0) : ACell), (.inr (.int, [.int 3]) : ACell), (.inr (.int, [.int 3, .int 0, .int 0, .int 0]) : ACell)] (Is (some (.ref 8)) [(.inl (0, [.ref 1, .ref 2, .ref 3, .ref 4, .ref 5]) : ACell), (.inr (.int, own_a 3 1) : ACell), (.inr (.int, own_a 3 2) : ACell), (.inr (.int, own_b m 0 2 2 1) : ACell), (.inr (.int, own_b m 0 0 1 0) : ACell), (.inr (.int, own_b m 0 2 0 0) : ACell), (.inr (.int, [.int 3]) : ACell), (.inr (.int, [.int 3, .int 0, .int 0, .int 0]) : ACell), (.inr (.int, [.int 1, .int 2]) : ACell)]) := by
  refine e3 ?_
  refine s3_0 ?_
  refine s3_1 rfl ?_
  refine s3_2 ?_
  refine s3_3 rfl ?_
  refine s3_6 ?_
  refine s3_7 2 rfl (by decide) rfl ?_
  refine s3_8 rfl ?_
  refine s3_9 ?_
  refine s3_10 (fun h => absurd h (by decide)) (fun _ => ?_)
  refine s3_13 ?_
  refine s3_16 ?_
  refine s3_17 rfl ?_
  refine s3_20 ?_
  refine s3_21 1 rfl (by decide) rfl ?_
  refine s3_22 rfl ?_
  refine s3_23 ?_
  refine s3_9 ?_
  refine s3_10 (fun h => absurd h (by decide)) (fun _ => ?_)
  refine s3_13 ?_
  refine s3_16 ?_
  refine s3_17 rfl ?_
  refine s3_20 ?_
  refine s3_21 2 rfl (by decide) rfl ?_
  refine s3_22 rfl ?_
  refine s3_23 ?_
  refine s3_9 ?_
  refine s3_10 (fun _ => ?_) (fun h => absurd h (by decide))
  refine s3_26 ?_
  refine s3_27 8 2 (by decide) rfl rfl ?_
  refine s3_29 rfl ?_
  refine s3_30 ?_
  refine s3_31 rfl ?_
  refine s3_33 ?_
  refine s3_34 rfl ?_
  refine s3_37 ?_
  refine s3_38 2 rfl (by decide) rfl ?_
  refine s3_39 rfl ?_
  refine s3_41 ?_
  refine s3_43 (fun h => absurd h (by decide)) (fun _ => ?_)
  refine s3_46 ?_
  refine s3_47 ?_
  refine s3_49 ?_
  refine s3_51 0 rfl (by decide) rfl ?_
  refine s3_52 ?_
  refine s3_55 ?_
  refine s3_56 rfl ?_
  refine s3_59 ?_
  refine s3_61 1 rfl (by decide) rfl ?_
  refine s3_62 rfl ?_
  refine s3_64 ?_
  refine s3_41 ?_
  refine s3_43 (fun h => absurd h (by decide)) (fun _ => ?_)
  refine s3_46 ?_
  refine s3_47 ?_
  refine s3_49 ?_
  refine s3_51 1 rfl (by decide) rfl ?_
  refine s3_52 ?_
  refine s3_55 ?_
  refine s3_56 rfl ?_
  refine s3_59 ?_
  refine s3_61 2 rfl (by decide) rfl ?_
  refine s3_62 rfl ?_
  refine s3_64 ?_
  refine s3_41 ?_
  refine s3_43 (fun _ => ?_) (fun h => absurd h (by decide))
  refine s3_67 ?_
  exact s3_68 ⟨rfl, rfl⟩
theorem own_r152 {m : Nat} : M4 ⟨0, 1, 4, 0⟩ [.ref 8, .int 2, .int 2, .int 2, .int 0, .int 0, .int 0, .int 0] [(.inl (0, [.ref 1, .ref 2, .ref 3, .ref 4, .ref 5]) : ACell), (.inr (.int, own_a 3 1) : ACell), (.inr (.int, own_a 3 2) : ACell), (.inr (.int, own_b m 0 2 2 1) : ACell), (.inr (.int, own_b m 0 0 1 0) : ACell), (.inr (.int, own_b m 0 2 0 0) : ACell), (.inr (.int, [.int 3]) : ACell), (.inr (.int, [.int 3, .int 0, .int 0, .int 0]) : ACell), (.inr (.int, [.int 1, .int 2]) : ACell)] (Is (some (.int 1)) [(.inl (0, [.ref 1, .ref 2, .ref 3, .ref 4, .ref 5]) : ACell), (.inr (.int, own_a 3 1) : ACell), (.inr (.int, own_a 3 2) : ACell), (.inr (.int, own_b m 0 2 2 1) : ACell), (.inr (.int, own_b m 0 0 1 0) : ACell), (.inr (.int, own_b m 0 2 0 0) : ACell), (.inr (.int, [.int 3]) : ACell), (.inr (.int, [.int 3, .int 0, .int 0, .int 0]) : ACell), (.inr (.int, [.int 1, .int 2]) : ACell), (.inr (.int, [.int 1, .int 2, .int 0, .int 0]) : ACell)]) := by
  refine e4 ?_
  refine s4_0 ?_
  refine s4_1 9 4 (by decide) rfl rfl ?_
  refine s4_3 rfl ?_
  refine s4_5 ?_
  refine s4_6 rfl ?_
  refine s4_8 ?_
  refine s4_9 ?_
  refine s4_10 (fun _ => ?_) (fun h => absurd h (by decide))
  refine s4_27 ?_
  refine s4_28 ?_
  refine s4_29 (fun h => absurd h (by decide)) (fun _ => ?_)
  refine s4_32 ?_
  refine s4_34 (fun h => absurd h (by decide)) (fun _ => ?_)
  refine s4_37 ?_
  refine s4_39 ?_
  refine s4_41 ?_
  refine s4_42 0 rfl (by decide) rfl ?_
  refine s4_43 ?_
  refine s4_46 ?_
  refine s4_47 ?_
  refine s4_48 (fun h => absurd h (by decide)) (fun _ => ?_)
  refine s4_51 ?_
  refine s4_53 (fun h => absurd h (by decide)) (fun _ => ?_)
  refine s4_56 ?_
  refine s4_58 ?_
  refine s4_60 ?_
  refine s4_61 1 rfl (by decide) rfl ?_
  refine s4_62 ?_
  refine s4_65 ?_
  refine s4_67 (fun _ => ?_) (fun h => absurd h (by decide))
  refine s4_84 ?_
  refine s4_85k 2 rfl rfl ?_
  refine s4_86 ?_
  refine s4_88 (fun h => absurd h (by decide)) (fun _ => ?_)
  refine s4_91 ?_
  refine s4_93 ?_
  refine s4_94 (fun h => absurd h (by decide)) (fun _ => ?_)
  refine s4_97 ?_
  refine s4_98 ?_
  refine s4_99 0 rfl (by decide) rfl ?_
  refine s4_100 ?_
  refine s4_102 ?_
  refine s4_103 0 rfl (by decide) rfl ?_
  refine s4_104 (fun h => absurd h (by decide)) (fun _ => ?_)
  refine s4_107 ?_
  refine s4_109 ?_
  refine s4_110 (fun h => absurd h (by decide)) (fun _ => ?_)
  refine s4_113 ?_
  refine s4_114 ?_
  refine s4_115 1 rfl (by decide) rfl ?_
  refine s4_116 ?_
  refine s4_118 ?_
  refine s4_119 1 rfl (by decide) rfl ?_
  refine s4_120 (fun h => absurd h (by decide)) (fun _ => ?_)
  refine s4_123 ?_
  refine s4_125 ?_
  refine s4_126 (fun _ => ?_) (fun h => absurd h (by decide))
  refine s4_139 ?_
  refine s4_141 ?_
  refine s4_142 (fun _ => ?_) (fun h => absurd h (by decide))
  refine s4_155 ?_
  refine s4_156 ?_
  exact s4_160 ⟨rfl, rfl⟩
theorem own_r153 {m : Nat} : M5 ⟨0, 0, 0, 0⟩ [.ref 0, .int 2] [(.inl (0, [.ref 1, .ref 2, .ref 3, .ref 4, .ref 5]) : ACell), (.inr (.int, own_a 3 1) : ACell), (.inr (.int, own_a 3 2) : ACell), (.inr (.int, own_b m 0 2 2 1) : ACell), (.inr (.int, own_b m 0 0 1 0) : ACell), (.inr (.int, own_b m 0 2 0 0) : ACell)] (Is none [(.inl (0, [.ref 1, .ref 2, .ref 3, .ref 4, .ref 5]) : ACell), (.inr (.int, own_a 3 1) : ACell), (.inr (.int, own_a 3 1) : ACell), (.inr (.int, own_b m 0 2 0 1) : ACell), (.inr (.int, own_b m 0 0 1 0) : ACell), (.inr (.int, own_b m 0 0 0 0) : ACell)]) := by
  refine e5 ?_
  refine s5_0 ?_
  refine s5_1 rfl ?_
  refine s5_4 ?_
  refine s5_5 2 rfl (by decide) rfl ?_
  refine s5_6 rfl ?_
  refine s5_7 ?_
  refine s5_8 rfl ?_
  refine s5_11 ?_
  refine s5_12 2 rfl (by decide) rfl ?_
  refine s5_13 (fun _ => ?_) (fun h => absurd h (by decide))
  refine s5_31 ?_
  refine s5_32 rfl ?_
  refine s5_35 ?_
  refine s5_36 rfl ?_
  refine s5_39 ?_
  refine s5_40 2 rfl (by decide) rfl ?_
  refine s5_41 ?_
  refine s5_42 rfl ?_
  refine s5_45 ?_
  refine s5_46 2 rfl (by decide) rfl ?_
  refine s5_47 1 rfl (by decide) rfl ?_
  refine s5_48 ?_
  refine s5_49 rfl ?_
  refine s5_52 ?_
  refine s5_53 2 rfl (by decide) rfl ?_
  refine s5_54 (fun h => absurd h (by decide)) (fun _ => ?_)
  refine s5_57 ?_
  refine s5_58 rfl ?_
  refine s5_61 ?_
  refine s5_62 ?_
  refine s5_63 rfl ?_
  refine s5_66 ?_
  refine s5_67 2 rfl (by decide) rfl ?_
  refine s5_68 2 rfl (by decide) rfl ?_
  refine s5_69 ?_
  refine s5_89 ?_
  refine s5_90 rfl ?_
  refine s5_93 ?_
  refine s5_94 ?_
  refine s5_95 2 rfl (by decide) rfl ?_
  exact s5_96 ⟨rfl, rfl⟩
theorem own_r154 {m : Nat} : M3 ⟨0, 1, 1, 0⟩ [.ref 0, .int 1] [(.inl (0, [.ref 1, .ref 2, .ref 3, .ref 4, .ref 5]) : ACell), (.inr (.int, own_a 3 1) : ACell), (.inr (.int, own_a 3 1) : ACell), (.inr (.int, own_b m 0 2 0 1) : ACell), (.inr (.int, own_b m 0 0 1 0) : ACell), (.inr (.int, own_b m 0 0 0 0) : ACell)] (Is (some (.ref 6)) [(.inl (0, [.ref 1, .ref 2, .ref 3, .ref 4, .ref 5]) : ACell), (.inr (.int, own_a 3 1) : ACell), (.inr (.int, own_a 3 1) : ACell), (.inr (.int, own_b m 0 2 0 1) : ACell), (.inr (.int, own_b m 0 0 1 0) : ACell), (.inr (.int, own_b m 0 0 0 0) : ACell), (.inr (.int, [.int 3]) : ACell)]) := by
  refine e3 ?_
  refine s3_0 ?_
  refine s3_1 rfl ?_
  refine s3_2 ?_
  refine s3_3 rfl ?_
  refine s3_6 ?_
  refine s3_7 1 rfl (by decide) rfl ?_
  refine s3_8 rfl ?_
  refine s3_9 ?_
  refine s3_10 (fun h => absurd h (by decide)) (fun _ => ?_)
  refine s3_13 ?_
  refine s3_16 ?_
  refine s3_17 rfl ?_
  refine s3_20 ?_
  refine s3_21 3 rfl (by decide) rfl ?_
  refine s3_22 rfl ?_
  refine s3_23 ?_
  refine s3_9 ?_
  refine s3_10 (fun _ => ?_) (fun h => absurd h (by decide))
  refine s3_26 ?_
  refine s3_27 6 1 (by decide) rfl rfl ?_
  refine s3_29 rfl ?_
  refine s3_30 ?_
  refine s3_31 rfl ?_
  refine s3_33 ?_
  refine s3_34 rfl ?_
  refine s3_37 ?_
  refine s3_38 1 rfl (by decide) rfl ?_
  refine s3_39 rfl ?_
  refine s3_41 ?_
  refine s3_43 (fun h => absurd h (by decide)) (fun _ => ?_)
  refine s3_46 ?_
  refine s3_47 ?_
  refine s3_49 ?_
  refine s3_51 0 rfl (by decide) rfl ?_
  refine s3_52 ?_
  refine s3_55 ?_
  refine s3_56 rfl ?_
  refine s3_59 ?_
  refine s3_61 3 rfl (by decide) rfl ?_
  refine s3_62 rfl ?_
  refine s3_64 ?_
  refine s3_41 ?_
  refine s3_43 (fun _ => ?_) (fun h => absurd h (by decide))
  refine s3_67 ?_
  exact s3_68 ⟨rfl, rfl⟩
theorem own_r155 {m : Nat} : M4 ⟨0, 1, 4, 0⟩ [.ref 6, .int 1, .int 2, .int 2, .int 0, .int 0, .int 1, .int 0] [(.inl (0, [.ref 1, .ref 2, .ref 3, .ref 4, .ref 5]) : ACell), (.inr (.int, own_a 3 1) : ACell), (.inr (.int, own_a 3 1) : ACell), (.inr (.int, own_b m 0 2 0 1) : ACell), (.inr (.int, own_b m 0 0 1 0) : ACell), (.inr (.int, own_b m 0 0 0 0) : ACell), (.inr (.int, [.int 3]) : ACell)] (Is (some (.int 1)) [(.inl (0, [.ref 1, .ref 2, .ref 3, .ref 4, .ref 5]) : ACell), (.inr (.int, own_a 3 1) : ACell), (.inr (.int, own_a 3 1) : ACell), (.inr (.int, own_b m 0 2 0 1) : ACell), (.inr (.int, own_b m 0 0 1 0) : ACell), (.inr (.int, own_b m 0 0 0 0) : ACell), (.inr (.int, [.int 3]) : ACell), (.inr (.int, [.int 3, .int 0, .int 0, .int 0]) : ACell)]) := by
  refine e4 ?_
  refine s4_0 ?_
  refine s4_1 7 4 (by decide) rfl rfl ?_
  refine s4_3 rfl ?_
  refine s4_5 ?_
  refine s4_6 rfl ?_
  refine s4_8 ?_
  refine s4_9 ?_
  refine s4_10 (fun h => absurd h (by decide)) (fun _ => ?_)
  refine s4_13 ?_
  refine s4_15 (fun h => absurd h (by decide)) (fun _ => ?_)
  refine s4_18 ?_
  refine s4_20 ?_
  refine s4_22 ?_
  refine s4_23 0 rfl (by decide) rfl ?_
  refine s4_24 ?_
  refine s4_27 ?_
  refine s4_28 ?_
  refine s4_29 (fun _ => ?_) (fun h => absurd h (by decide))
  refine s4_46 ?_
  refine s4_47 ?_
  refine s4_48 (fun _ => ?_) (fun h => absurd h (by decide))
  refine s4_65 ?_
  refine s4_67 (fun _ => ?_) (fun h => absurd h (by decide))
  refine s4_84 ?_
  refine s4_85k 1 rfl rfl ?_
  refine s4_86 ?_
  refine s4_88 (fun h => absurd h (by decide)) (fun _ => ?_)
  refine s4_91 ?_
  refine s4_93 ?_
  refine s4_94 (fun h => absurd h (by decide)) (fun _ => ?_)
  refine s4_97 ?_
  refine s4_98 ?_
  refine s4_99 0 rfl (by decide) rfl ?_
  refine s4_100 ?_
  refine s4_102 ?_
  refine s4_103 0 rfl (by decide) rfl ?_
  refine s4_104 (fun h => absurd h (by decide)) (fun _ => ?_)
  refine s4_107 ?_
  refine s4_109 ?_
  refine s4_110 (fun _ => ?_) (fun h => absurd h (by decide))
  refine s4_123 ?_
  refine s4_125 ?_
  refine s4_126 (fun _ => ?_) (fun h => absurd h (by decide))
  refine s4_139 ?_
  refine s4_141 ?_
  refine s4_142 (fun _ => ?_) (fun h => absurd h (by decide))
  refine s4_155 ?_
  refine s4_156 ?_
  exact s4_160 ⟨rfl, rfl⟩
theorem own_r156 {m : Nat} : M3 ⟨0, 1, 1, 0⟩ [.ref 0, .int 2] [(.inl (0, [.ref 1, .ref 2, .ref 3, .ref 4, .ref 5]) : ACell), (.inr (.int, own_a 3 1) : ACell), (.inr (.int, own_a 3 1) : ACell), (.inr (.int, own_b m 0 2 0 1) : ACell), (.inr (.int, own_b m 0 0 1 0) : ACell), (.inr (.int, own_b m 0 0 0 0) : ACell), (.inr (.int, [.int 3]) : ACell), (.inr (.int, [.int 3, .int 0, .int 0, .int 0]) : ACell)] (Is (some (.ref 8)) [(.inl (0, [.ref 1, .ref 2, .ref 3, .ref 4, .ref 5]) : ACell), (.inr (.int, own_a 3 1) : ACell), (.inr (.int, own_a 3 1) : ACell), (.inr (.int, own_b m 0 2 0 1) : ACell), (.inr (.int, own_b m 0 0 1 0) : ACell), (.inr (.int, own_b m 0 0 0 0) : ACell), (.inr (.int, [.int 3]) : ACell), (.inr (.int, [.int 3, .int 0, .int 0, .int 0]) : ACell), (.inr (.int, [.int 1]) : ACell)]) := by
  refine e3 ?_
  refine s3_0 ?_
  refine s3_1 rfl ?_
  refine s3_2 ?_
  refine s3_3 rfl ?_
  refine s3_6 ?_
  refine s3_7 2 rfl (by decide) rfl ?_
  refine s3_8 rfl ?_
  refine s3_9 ?_
  refine s3_10 (fun h => absurd h (by decide)) (fun _ => ?_)
  refine s3_13 ?_
  refine s3_16 ?_
  refine s3_17 rfl ?_
  refine s3_20 ?_
  refine s3_21 1 rfl (by decide) rfl ?_
  refine s3_22 rfl ?_
  refine s3_23 ?_
  refine s3_9 ?_
  refine s3_10 (fun _ => ?_) (fun h => absurd h (by decide))
  refine s3_26 ?_
  refine s3_27 8 1 (by decide) rfl rfl ?_
  refine s3_29 rfl ?_
  refine s3_30 ?_
  refine s3_31 rfl ?_
  refine s3_33 ?_
  refine s3_34 rfl ?_
  refine s3_37 ?_
  refine s3_38 2 rfl (by decide) rfl ?_
  refine s3_39 rfl ?_
  refine s3_41 ?_
  refine s3_43 (fun h => absurd h (by decide)) (fun _ => ?_)
  refine s3_46 ?_
  refine s3_47 ?_
  refine s3_49 ?_
  refine s3_51 0 rfl (by decide) rfl ?_
  refine s3_52 ?_
  refine s3_55 ?_
  refine s3_56 rfl ?_
  refine s3_59 ?_
  refine s3_61 1 rfl (by decide) rfl ?_
  refine s3_62 rfl ?_
  refine s3_64 ?_
  refine s3_41 ?_
  refine s3_43 (fun _ => ?_) (fun h => absurd h (by decide))
  refine s3_67 ?_
  exact s3_68 ⟨rfl, rfl⟩
theorem own_r157 {m : Nat} : M4 ⟨0, 1, 4, 0⟩ [.ref 8, .int 2, .int 2, .int 2, .int 0, .int 0, .int 1, .int 0] [(.inl (0, [.ref 1, .ref 2, .ref 3, .ref 4, .ref 5]) : ACell), (.inr (.int, own_a 3 1) : ACell), (.inr (.int, own_a 3 1) : ACell), (.inr (.int, own_b m 0 2 0 1) : ACell), (.inr (.int, own_b m 0 0 1 0) : ACell), (.inr (.int, own_b m 0 0 0 0) : ACell), (.inr (.int, [.int 3]) : ACell), (.inr (.int, [.int 3, .int 0, .int 0, .int 0]) : ACell), (.inr (.int, [.int 1]) : ACell)] (Is (some (.int 1)) [(.inl (0, [.ref 1, .ref 2, .ref 3, .ref 4, .ref 5]) : ACell), (.inr (.int, own_a 3 1) : ACell), (.inr (.int, own_a 3 1) : ACell), (.inr (.int, own_b m 0 2 0 1) : ACell), (.inr (.int, own_b m 0 0 1 0) : ACell), (.inr (.int, own_b m 0 0 0 0) : ACell), (.inr (.int, [.int 3]) : ACell), (.inr (.int, [.int 3, .int 0, .int 0, .int 0]) : ACell), (.inr (.int, [.int 1]) : ACell), (.inr (.int, [.int 1, .int 0, .int 0, .int 0]) : ACell)]) := by
  refine e4 ?_
  refine s4_0 ?_
  refine s4_1 9 4 (by decide) rfl rfl ?_
  refine s4_3 rfl ?_
  refine s4_5 ?_
  refine s4_6 rfl ?_
  refine s4_8 ?_
  refine s4_9 ?_
  refine s4_10 (fun _ => ?_) (fun h => absurd h (by decide))
  refine s4_27 ?_
  refine s4_28 ?_
  refine s4_29 (fun h => absurd h (by decide)) (fun _ => ?_)
  refine s4_32 ?_
  refine s4_34 (fun h => absurd h (by decide)) (fun _ => ?_)
  refine s4_37 ?_
  refine s4_39 ?_
  refine s4_41 ?_
  refine s4_42 0 rfl (by decide) rfl ?_
  refine s4_43 ?_
  refine s4_46 ?_
  refine s4_47 ?_
  refine s4_48 (fun h => absurd h (by decide)) (fun _ => ?_)
  refine s4_51 ?_
  refine s4_53 (fun _ => ?_) (fun h => absurd h (by decide))
  refine s4_65 ?_
  refine s4_67 (fun _ => ?_) (fun h => absurd h (by decide))
  refine s4_84 ?_
  refine s4_85k 1 rfl rfl ?_
  refine s4_86 ?_
  refine s4_88 (fun h => absurd h (by decide)) (fun _ => ?_)
  refine s4_91 ?_
  refine s4_93 ?_
  refine s4_94 (fun h => absurd h (by decide)) (fun _ => ?_)
  refine s4_97 ?_
  refine s4_98 ?_
  refine s4_99 0 rfl (by decide) rfl ?_
  refine s4_100 ?_
  refine s4_102 ?_
  refine s4_103 0 rfl (by decide) rfl ?_
  refine s4_104 (fun h => absurd h (by decide)) (fun _ => ?_)
  refine s4_107 ?_
  refine s4_109 ?_
  refine s4_110 (fun _ => ?_) (fun h => absurd h (by decide))
  refine s4_123 ?_
  refine s4_125 ?_
  refine s4_126 (fun _ => ?_) (fun h => absurd h (by decide))
  refine s4_139 ?_
  refine s4_141 ?_
  refine s4_142 (fun _ => ?_) (fun h => absurd h (by decide))
  refine s4_155 ?_
  refine s4_156 ?_
  exact s4_160 ⟨rfl, rfl⟩
theorem own_r158 {m : Nat} : M5 ⟨0, 0, 0, 0⟩ [.ref 0, .int 1] [(.inl (0, [.ref 1, .ref 2, .ref 3, .ref 4, .ref 5]) : ACell), (.inr (.int, own_a 3 1) : ACell), (.inr (.int, own_a 3 2) : ACell), (.inr (.int, own_b m 0 2 2 1) : ACell), (.inr (.int, own_b m 0 0 1 0) : ACell), (.inr (.int, own_b m 0 2 0 0) : ACell)] (Is none [(.inl (0, [.ref 1, .ref 2, .ref 3, .ref 4, .ref 5]) : ACell), (.inr (.int, own_a 3 2) : ACell), (.inr (.int, own_a 3 2) : ACell), (.inr (.int, own_b m 0 0 2 1) : ACell), (.inr (.int, own_b m 0 0 0 0) : ACell), (.inr (.int, own_b m 0 2 0 0) : ACell)]) := by
  refine e5 ?_
  refine s5_0 ?_
  refine s5_1 rfl ?_
  refine s5_4 ?_
  refine s5_5 1 rfl (by decide) rfl ?_
  refine s5_6 rfl ?_
  refine s5_7 ?_
  refine s5_8 rfl ?_
  refine s5_11 ?_
  refine s5_12 1 rfl (by decide) rfl ?_
  refine s5_13 (fun h => absurd h (by decide)) (fun _ => ?_)
  refine s5_16 ?_
  refine s5_17 rfl ?_
  refine s5_20 ?_
  refine s5_21 ?_
  refine s5_22 rfl ?_
  refine s5_25 ?_
  refine s5_26 1 rfl (by decide) rfl ?_
  refine s5_27 2 rfl (by decide) rfl ?_
  refine s5_28 ?_
  refine s5_48 ?_
  refine s5_49 rfl ?_
  refine s5_52 ?_
  refine s5_53 1 rfl (by decide) rfl ?_
  refine s5_54 (fun _ => ?_) (fun h => absurd h (by decide))
  refine s5_72 ?_
  refine s5_73 rfl ?_
  refine s5_76 ?_
  refine s5_77 rfl ?_
  refine s5_80 ?_
  refine s5_81 1 rfl (by decide) rfl ?_
  refine s5_82 ?_
  refine s5_83 rfl ?_
  refine s5_86 ?_
  refine s5_87 1 rfl (by decide) rfl ?_
  refine s5_88 2 rfl (by decide) rfl ?_
  refine s5_89 ?_
  refine s5_90 rfl ?_
  refine s5_93 ?_
  refine s5_94 ?_
  refine s5_95 1 rfl (by decide) rfl ?_
  exact s5_96 ⟨rfl, rfl⟩
theorem own_r159 {m : Nat} : M3 ⟨0, 1, 1, 0⟩ [.ref 0, .int 1] [(.inl (0, [.ref 1, .ref 2, .ref 3, .ref 4, .ref 5]) : ACell), (.inr (.int, own_a 3 2) : ACell), (.inr (.int, own_a 3 2) : ACell), (.inr (.int, own_b m 0 0 2 1) : ACell), (.inr (.int, own_b m 0 0 0 0) : ACell), (.inr (.int, own_b m 0 2 0 0) : ACell)] (Is (some (.ref 6)) [(.inl (0, [.ref 1, .ref 2, .ref 3, .ref 4, .ref 5]) : ACell), (.inr (.int, own_a 3 2) : ACell), (.inr (.int, own_a 3 2) : ACell), (.inr (.int, own_b m 0 0 2 1) : ACell), (.inr (.int, own_b m 0 0 0 0) : ACell), (.inr (.int, own_b m 0 2 0 0) : ACell), (.inr (.int, [.int 3]) : ACell)]) := by
  refine e3 ?_
  refine s3_0 ?_
  refine s3_1 rfl ?_
  refine s3_2 ?_
  refine s3_3 rfl ?_
  refine s3_6 ?_
  refine s3_7 1 rfl (by decide) rfl ?_
  refine s3_8 rfl ?_
  refine s3_9 ?_
  refine s3_10 (fun h => absurd h (by decide)) (fun _ => ?_)
  refine s3_13 ?_
  refine s3_16 ?_
  refine s3_17 rfl ?_
  refine s3_20 ?_
  refine s3_21 3 rfl (by decide) rfl ?_
  refine s3_22 rfl ?_
  refine s3_23 ?_
  refine s3_9 ?_
  refine s3_10 (fun _ => ?_) (fun h => absurd h (by decide))
  refine s3_26 ?_
  refine s3_27 6 1 (by decide) rfl rfl ?_
  refine s3_29 rfl ?_
  refine s3_30 ?_
  refine s3_31 rfl ?_
  refine s3_33 ?_
  refine s3_34 rfl ?_
  refine s3_37 ?_
  refine s3_38 1 rfl (by decide) rfl ?_
  refine s3_39 rfl ?_
  refine s3_41 ?_
  refine s3_43 (fun h => absurd h (by decide)) (fun _ => ?_)
  refine s3_46 ?_
  refine s3_47 ?_
  refine s3_49 ?_
  refine s3_51 0 rfl (by decide) rfl ?_
  refine s3_52 ?_
  refine s3_55 ?_
  refine s3_56 rfl ?_
  refine s3_59 ?_
  refine s3_61 3 rfl (by decide) rfl ?_
  refine s3_62 rfl ?_
  refine s3_64 ?_
  refine s3_41 ?_
  refine s3_43 (fun _ => ?_) (fun h => absurd h (by decide))
  refine s3_67 ?_
  exact s3_68 ⟨rfl, rfl⟩
theorem own_r160 {m : Nat} : M4 ⟨0, 1, 4, 0⟩ [.ref 6, .int 1, .int 2, .int 2, .int 0, .int 1, .int 0, .int 0] [(.inl (0, [.ref 1, .ref 2, .ref 3, .ref 4, .ref 5]) : ACell), (.inr (.int, own_a 3 2) : ACell), (.inr (.int, own_a 3 2) : ACell), (.inr (.int, own_b m 0 0 2 1) : ACell), (.inr (.int, own_b m 0 0 0 0) : ACell), (.inr (.int, own_b m 0 2 0 0) : ACell), (.inr (.int, [.int 3]) : ACell)] (Is (some (.int 1)) [(.inl (0, [.ref 1, .ref 2, .ref 3, .ref 4, .ref 5]) : ACell), (.inr (.int, own_a 3 2) : ACell), (.inr (.int, own_a 3 2) : ACell), (.inr (.int, own_b m 0 0 2 1) : ACell), (.inr (.int, own_b m 0 0 0 0) : ACell), (.inr (.int, own_b m 0 2 0 0) : ACell), (.inr (.int, [.int 3]) : ACell), (.inr (.int, [.int 3, .int 0, .int 0, .int 0]) : ACell)]) := by
  refine e4 ?_
  refine s4_0 ?_
  refine s4_1 7 4 (by decide) rfl rfl ?_
  refine s4_3 rfl ?_
  refine s4_5 ?_
  refine s4_6 rfl ?_
  refine s4_8 ?_
  refine s4_9 ?_
  refine s4_10 (fun h => absurd h (by decide)) (fun _ => ?_)
  refine s4_13 ?_
  refine s4_15 (fun h => absurd h (by decide)) (fun _ => ?_)
  refine s4_18 ?_
  refine s4_20 ?_
  refine s4_22 ?_
  refine s4_23 0 rfl (by decide) rfl ?_
  refine s4_24 ?_
  refine s4_27 ?_
  refine s4_28 ?_
  refine s4_29 (fun _ => ?_) (fun h => absurd h (by decide))
  refine s4_46 ?_
  refine s4_47 ?_
  refine s4_48 (fun _ => ?_) (fun h => absurd h (by decide))
  refine s4_65 ?_
  refine s4_67 (fun _ => ?_) (fun h => absurd h (by decide))
  refine s4_84 ?_
  refine s4_85k 1 rfl rfl ?_
  refine s4_86 ?_
  refine s4_88 (fun h => absurd h (by decide)) (fun _ => ?_)
  refine s4_91 ?_
  refine s4_93 ?_
  refine s4_94 (fun h => absurd h (by decide)) (fun _ => ?_)
  refine s4_97 ?_
  refine s4_98 ?_
  refine s4_99 0 rfl (by decide) rfl ?_
  refine s4_100 ?_
  refine s4_102 ?_
  refine s4_103 0 rfl (by decide) rfl ?_
  refine s4_104 (fun h => absurd h (by decide)) (fun _ => ?_)
  refine s4_107 ?_
  refine s4_109 ?_
  refine s4_110 (fun _ => ?_) (fun h => absurd h (by decide))
  refine s4_123 ?_
  refine s4_125 ?_
  refine s4_126 (fun _ => ?_) (fun h => absurd h (by decide))
  refine s4_139 ?_
  refine s4_141 ?_
  refine s4_142 (fun _ => ?_) (fun h => absurd h (by decide))
  refine s4_155 ?_
  refine s4_156 ?_
  exact s4_160 ⟨rfl, rfl⟩
theorem own_r161 {m : Nat} : M3 ⟨0, 1, 1, 0⟩ [.ref 0, .int 2] [(.inl (0, [.ref 1, .ref 2, .ref 3, .ref 4, .ref 5]) : ACell), (.inr (.int, own_a 3 2) : ACell), (.inr (.int, own_a 3 2) : ACell), (.inr (.int, own_b m 0 0 2 1) : ACell), (.inr (.int, own_b m 0 0 0 0) : ACell), (.inr (.int, own_b m 0 2 0 0) : ACell), (.inr (.int, [.int 3]) : ACell), (.inr (.int, [.int 3, .int 0, .int 0, .int 0]) : ACell)] (Is (some (.ref 8)) [(.inl (0, [.ref 1, .ref 2, .ref 3, .ref 4, .ref 5]) : ACell), (.inr (.int, own_a 3 2) : ACell), (.inr (.int, own_a 3 2) : ACell), (.inr (.int, own_b m 0 0 2 1) : ACell), (.inr (.int, own_b m 0 0 0 0) : ACell), (.inr (.int, own_b m 0 2 0 0) : ACell), (.inr (.int, [.int 3]) : ACell), (.inr (.int, [.int 3, .int 0, .int 0, .int 0]) : ACell), (.inr (.int, [.int 2]) : ACell)]) := by
  refine e3 ?_
  refine s3_0 ?_
  refine s3_1 rfl ?_
  refine s3_2 ?_
  refine s3_3 rfl ?_
  refine s3_6 ?_
  refine s3_7 2 rfl (by decide) rfl ?_
  refine s3_8 rfl ?_
  refine s3_9 ?_
  refine s3_10 (fun h => absurd h (by decide)) (fun _ => ?_)
  refine s3_13 ?_
  refine s3_16 ?_
  refine s3_17 rfl ?_
  refine s3_20 ?_
  refine s3_21 2 rfl (by decide) rfl ?_
  refine s3_22 rfl ?_
  refine s3_23 ?_
  refine s3_9 ?_
  refine s3_10 (fun _ => ?_) (fun h => absurd h (by decide))
  refine s3_26 ?_
  refine s3_27 8 1 (by decide) rfl rfl ?_
  refine s3_29 rfl ?_
  refine s3_30 ?_
  refine s3_31 rfl ?_
  refine s3_33 ?_
  refine s3_34 rfl ?_
  refine s3_37 ?_
  refine s3_38 2 rfl (by decide) rfl ?_
  refine s3_39 rfl ?_
  refine s3_41 ?_
  refine s3_43 (fun h => absurd h (by decide)) (fun _ => ?_)
  refine s3_46 ?_
  refine s3_47 ?_
  refine s3_49 ?_
  refine s3_51 0 rfl (by decide) rfl ?_
  refine s3_52 ?_
  refine s3_55 ?_
  refine s3_56 rfl ?_
  refine s3_59 ?_
  refine s3_61 2 rfl (by decide) rfl ?_
  refine s3_62 rfl ?_
  refine s3_64 ?_
  refine s3_41 ?_
  refine s3_43 (fun _ => ?_) (fun h => absurd h (by decide))
  refine s3_67 ?_
  exact s3_68 ⟨rfl, rfl⟩
theorem own_r162 {m : Nat} : M4 ⟨0, 1, 4, 0⟩ [.ref 8, .int 2, .int 2, .int 2, .int 0, .int 1, .int 0, .int 0] [(.inl (0, [.ref 1, .ref 2, .ref 3, .ref 4, .ref 5]) : ACell), (.inr (.int, own_a 3 2) : ACell), (.inr (.int, own_a 3 2) : ACell), (.inr (.int, own_b m 0 0 2 1) : ACell), (.inr (.int, own_b m 0 0 0 0) : ACell), (.inr (.int, own_b m 0 2 0 0) : ACell), (.inr (.int, [.int 3]) : ACell), (.inr (.int, [.int 3, .int 0, .int 0, .int 0]) : ACell), (.inr (.int, [.int 2]) : ACell)] (Is (some (.int 1)) [(.inl (0, [.ref 1, .ref 2, .ref 3, .ref 4, .ref 5]) : ACell), (.inr (.int, own_a 3 2) : ACell), (.inr (.int, own_a 3 2) : ACell), (.inr (.int, own_b m 0 0 2 1) : ACell), (.inr (.int, own_b m 0 0 0 0) : ACell), (.inr (.int, own_b m 0 2 0 0) : ACell), (.inr (.int, [.int 3]) : ACell), (.inr (.int, [.int 3, .int 0, .int 0, .int 0]) : ACell), (.inr (.int, [.int 2]) : ACell), (.inr (.int, [.int 2, .int 0, .int 0, .int 0]) : ACell)]) := by
  refine e4 ?_
  refine s4_0 ?_
  refine s4_1 9 4 (by decide) rfl rfl ?_
  refine s4_3 rfl ?_
  refine s4_5 ?_
  refine s4_6 rfl ?_
  refine s4_8 ?_
  refine s4_9 ?_
  refine s4_10 (fun _ => ?_) (fun h => absurd h (by decide))
  refine s4_27 ?_
  refine s4_28 ?_
  refine s4_29 (fun h => absurd h (by decide)) (fun _ => ?_)
  refine s4_32 ?_
  refine s4_34 (fun _ => ?_) (fun h => absurd h (by decide))
  refine s4_46 ?_
  refine s4_47 ?_
  refine s4_48 (fun h => absurd h (by decide)) (fun _ => ?_)
  refine s4_51 ?_
  refine s4_53 (fun h => absurd h (by decide)) (fun _ => ?_)
  refine s4_56 ?_
  refine s4_58 ?_
  refine s4_60 ?_
  refine s4_61 0 rfl (by decide) rfl ?_
  refine s4_62 ?_
  refine s4_65 ?_
  refine s4_67 (fun _ => ?_) (fun h => absurd h (by decide))
  refine s4_84 ?_
  refine s4_85k 1 rfl rfl ?_
  refine s4_86 ?_
  refine s4_88 (fun h => absurd h (by decide)) (fun _ => ?_)
  refine s4_91 ?_
  refine s4_93 ?_
  refine s4_94 (fun h => absurd h (by decide)) (fun _ => ?_)
  refine s4_97 ?_
  refine s4_98 ?_
  refine s4_99 0 rfl (by decide) rfl ?_
  refine s4_100 ?_
  refine s4_102 ?_
  refine s4_103 0 rfl (by decide) rfl ?_
  refine s4_104 (fun h => absurd h (by decide)) (fun _ => ?_)
  refine s4_107 ?_
  refine s4_109 ?_
  refine s4_110 (fun _ => ?_) (fun h => absurd h (by decide))
  refine s4_123 ?_
  refine s4_125 ?_
  refine s4_126 (fun _ => ?_) (fun h => absurd h (by decide))
  refine s4_139 ?_
  refine s4_141 ?_
  refine s4_142 (fun _ => ?_) (fun h => absurd h (by decide))
  refine s4_155 ?_
  refine s4_156 ?_
  exact s4_160 ⟨rfl, rfl⟩
theorem own_r163 {m : Nat} : M5 ⟨0, 0, 0, 0⟩ [.ref 0, .int 1] [(.inl (0, [.ref 1, .ref 2, .ref 3, .ref 4, .ref 5]) : ACell), (.inr (.int, own_a 3 1) : ACell), (.inr (.int, own_a 3 1) : ACell), (.inr (.int, own_b m 0 2 0 1) : ACell), (.inr (.int, own_b m 0 0 1 0) : ACell), (.inr (.int, own_b m 0 0 0 0) : ACell)] (Is none [(.inl (0, [.ref 1, .ref 2, .ref 3, .ref 4, .ref 5]) : ACell), (.inr (.int, own_a 3 0) : ACell), (.inr (.int, own_a 3 0) : ACell), (.inr (.int, own_b m 0 0 0 1) : ACell), (.inr (.int, own_b m 0 0 1 0) : ACell), (.inr (.int, own_b m 0 0 0 0) : ACell)]) := by
  refine e5 ?_
  refine s5_0 ?_
  refine s5_1 rfl ?_
  refine s5_4 ?_
  refine s5_5 1 rfl (by decide) rfl ?_
  refine s5_6 rfl ?_
  refine s5_7 ?_
  refine s5_8 rfl ?_
  refine s5_11 ?_
  refine s5_12 1 rfl (by decide) rfl ?_
  refine s5_13 (fun h => absurd h (by decide)) (fun _ => ?_)
  refine s5_16 ?_
  refine s5_17 rfl ?_
  refine s5_20 ?_
  refine s5_21 ?_
  refine s5_22 rfl ?_
  refine s5_25 ?_
  refine s5_26 1 rfl (by decide) rfl ?_
  refine s5_27 2 rfl (by decide) rfl ?_
  refine s5_28 ?_
  refine s5_48 ?_
  refine s5_49 rfl ?_
  refine s5_52 ?_
  refine s5_53 1 rfl (by decide) rfl ?_
  refine s5_54 (fun h => absurd h (by decide)) (fun _ => ?_)
  refine s5_57 ?_
  refine s5_58 rfl ?_
  refine s5_61 ?_
  refine s5_62 ?_
  refine s5_63 rfl ?_
  refine s5_66 ?_
  refine s5_67 1 rfl (by decide) rfl ?_
  refine s5_68 2 rfl (by decide) rfl ?_
  refine s5_69 ?_
  refine s5_89 ?_
  refine s5_90 rfl ?_
  refine s5_93 ?_
  refine s5_94 ?_
  refine s5_95 1 rfl (by decide) rfl ?_
  exact s5_96 ⟨rfl, rfl⟩
theorem own_r164 {m : Nat} : M3 ⟨0, 1, 1, 0⟩ [.ref 0, .int 1] [(.inl (0, [.ref 1, .ref 2, .ref 3, .ref 4, .ref 5]) : ACell), (.inr (.int, own_a 3 0) : ACell), (.inr (.int, own_a 3 0) : ACell), (.inr (.int, own_b m 0 0 0 1) : ACell), (.inr (.int, own_b m 0 0 1 0) : ACell), (.inr (.int, own_b m 0 0 0 0) : ACell)] (Is (some (.ref 6)) [(.inl (0, [.ref 1, .ref 2, .ref 3, .ref 4, .ref 5]) : ACell), (.inr (.int, own_a 3 0) : ACell), (.inr (.int, own_a 3 0) : ACell), (.inr (.int, own_b m 0 0 0 1) : ACell), (.inr (.int, own_b m 0 0 1 0) : ACell), (.inr (.int, own_b m 0 0 0 0) : ACell), (.inr (.int, [.int 3]) : ACell)]) := by
  refine e3 ?_
  refine s3_0 ?_
  refine s3_1 rfl ?_
  refine s3_2 ?_
  refine s3_3 rfl ?_
  refine s3_6 ?_
  refine s3_7 1 rfl (by decide) rfl ?_
  refine s3_8 rfl ?_
  refine s3_9 ?_
  refine s3_10 (fun h => absurd h (by decide)) (fun _ => ?_)
  refine s3_13 ?_
  refine s3_16 ?_
  refine s3_17 rfl ?_
  refine s3_20 ?_
  refine s3_21 3 rfl (by decide) rfl ?_
  refine s3_22 rfl ?_
  refine s3_23 ?_
  refine s3_9 ?_
  refine s3_10 (fun _ => ?_) (fun h => absurd h (by decide))
  refine s3_26 ?_
  refine s3_27 6 1 (by decide) rfl rfl ?_
  refine s3_29 rfl ?_
  refine s3_30 ?_
  refine s3_31 rfl ?_
  refine s3_33 ?_
  refine s3_34 rfl ?_
  refine s3_37 ?_
  refine s3_38 1 rfl (by decide) rfl ?_
  refine s3_39 rfl ?_
  refine s3_41 ?_
  refine s3_43 (fun h => absurd h (by decide)) (fun _ => ?_)
  refine s3_46 ?_
  refine s3_47 ?_
  refine s3_49 ?_
  refine s3_51 0 rfl (by decide) rfl ?_
  refine s3_52 ?_
  refine s3_55 ?_
  refine s3_56 rfl ?_
  refine s3_59 ?_
  refine s3_61 3 rfl (by decide) rfl ?_
  refine s3_62 rfl ?_
  refine s3_64 ?_
  refine s3_41 ?_
  refine s3_43 (fun _ => ?_) (fun h => absurd h (by decide))
  refine s3_67 ?_
  exact s3_68 ⟨rfl, rfl⟩
theorem own_r165 {m : Nat} : M4 ⟨0, 1, 4, 0⟩ [.ref 6, .int 1, .int 2, .int 2, .int 0, .int 1, .int 1, .int 0] [(.inl (0, [.ref 1, .ref 2, .ref 3, .ref 4, .ref 5]) : ACell), (.inr (.int, own_a 3 0) : ACell), (.inr (.int, own_a 3 0) : ACell), (.inr (.int, own_b m 0 0 0 1) : ACell), (.inr (.int, own_b m 0 0 1 0) : ACell), (.inr (.int, own_b m 0 0 0 0) : ACell), (.inr (.int, [.int 3]) : ACell)] (Is (some (.int 1)) [(.inl (0, [.ref 1, .ref 2, .ref 3, .ref 4, .ref 5]) : ACell), (.inr (.int, own_a 3 0) : ACell), (.inr (.int, own_a 3 0) : ACell), (.inr (.int, own_b m 0 0 0 1) : ACell), (.inr (.int, own_b m 0 0 1 0) : ACell), (.inr (.int, own_b m 0 0 0 0) : ACell), (.inr (.int, [.int 3]) : ACell), (.inr (.int, [.int 3, .int 0, .int 0, .int 0]) : ACell)]) := by
  refine e4 ?_
  refine s4_0 ?_
  refine s4_1 7 4 (by decide) rfl rfl ?_
  refine s4_3 rfl ?_
  refine s4_5 ?_
  refine s4_6 rfl ?_
  refine s4_8 ?_
  refine s4_9 ?_
  refine s4_10 (fun h => absurd h (by decide)) (fun _ => ?_)
  refine s4_13 ?_
  refine s4_15 (fun h => absurd h (by decide)) (fun _ => ?_)
  refine s4_18 ?_
  refine s4_20 ?_
  refine s4_22 ?_
  refine s4_23 0 rfl (by decide) rfl ?_
  refine s4_24 ?_
  refine s4_27 ?_
  refine s4_28 ?_
  refine s4_29 (fun _ => ?_) (fun h => absurd h (by decide))
  refine s4_46 ?_
  refine s4_47 ?_
  refine s4_48 (fun _ => ?_) (fun h => absurd h (by decide))
  refine s4_65 ?_
  refine s4_67 (fun _ => ?_) (fun h => absurd h (by decide))
  refine s4_84 ?_
  refine s4_85k 1 rfl rfl ?_
  refine s4_86 ?_
  refine s4_88 (fun h => absurd h (by decide)) (fun _ => ?_)
  refine s4_91 ?_
  refine s4_93 ?_
  refine s4_94 (fun h => absurd h (by decide)) (fun _ => ?_)
  refine s4_97 ?_
  refine s4_98 ?_
  refine s4_99 0 rfl (by decide) rfl ?_
  refine s4_100 ?_
  refine s4_102 ?_
  refine s4_103 0 rfl (by decide) rfl ?_
  refine s4_104 (fun h => absurd h (by decide)) (fun _ => ?_)
  refine s4_107 ?_
  refine s4_109 ?_
  refine s4_110 (fun _ => ?_) (fun h => absurd h (by decide))
  refine s4_123 ?_
  refine s4_125 ?_
  refine s4_126 (fun _ => ?_) (fun h => absurd h (by decide))
  refine s4_139 ?_
  refine s4_141 ?_
  refine s4_142 (fun _ => ?_) (fun h => absurd h (by decide))
  refine s4_155 ?_
  refine s4_156 ?_
  exact s4_160 ⟨rfl, rfl⟩
theorem own_r166 {m : Nat} : M3 ⟨0, 1, 0, 0⟩ [.ref 0, .int 2] [(.inl (0, [.ref 1, .ref 2, .ref 3, .ref 4, .ref 5]) : ACell), (.inr (.int, own_a 3 0) : ACell), (.inr (.int, own_a 3 0) : ACell), (.inr (.int, own_b m 0 0 0 1) : ACell), (.inr (.int, own_b m 0 0 1 0) : ACell), (.inr (.int, own_b m 0 0 0 0) : ACell), (.inr (.int, [.int 3]) : ACell), (.inr (.int, [.int 3, .int 0, .int 0, .int 0]) : ACell)] (Is (some (.ref 8)) [(.inl (0, [.ref 1, .ref 2, .ref 3, .ref 4, .ref 5]) : ACell), (.inr (.int, own_a 3 0) : ACell), (.inr (.int, own_a 3 0) : ACell), (.inr (.int, own_b m 0 0 0 1) : ACell), (.inr (.int, own_b m 0 0 1 0) : ACell), (.inr (.int, own_b m 0 0 0 0) : ACell), (.inr (.int, [.int 3]) : ACell), (.inr (.int, [.int 3, .int 0, .int 0, .int 0]) : ACell), (.inr (.int, []) : ACell)]) := by
  refine e3 ?_
  refine s3_0 ?_
  refine s3_1 rfl ?_
  refine s3_2 ?_
  refine s3_3 rfl ?_
  refine s3_6 ?_
  refine s3_7 2 rfl (by decide) rfl ?_
  refine s3_8 rfl ?_
  refine s3_9 ?_
  refine s3_10 (fun _ => ?_) (fun h => absurd h (by decide))
  refine s3_26 ?_
  refine s3_27 8 0 (by decide) rfl rfl ?_
  refine s3_29 rfl ?_
  refine s3_30 ?_
  refine s3_31 rfl ?_
  refine s3_33 ?_
  refine s3_34 rfl ?_
  refine s3_37 ?_
  refine s3_38 2 rfl (by decide) rfl ?_
  refine s3_39 rfl ?_
  refine s3_41 ?_
  refine s3_43 (fun _ => ?_) (fun h => absurd h (by decide))
  refine s3_67 ?_
  exact s3_68 ⟨rfl, rfl⟩
theorem own_r167 {m : Nat} : M4 ⟨0, 1, 4, 0⟩ [.ref 8, .int 2, .int 2, .int 2, .int 0, .int 1, .int 1, .int 0] [(.inl (0, [.ref 1, .ref 2, .ref 3, .ref 4, .ref 5]) : ACell), (.inr (.int, own_a 3 0) : ACell), (.inr (.int, own_a 3 0) : ACell), (.inr (.int, own_b m 0 0 0 1) : ACell), (.inr (.int, own_b m 0 0 1 0) : ACell), (.inr (.int, own_b m 0 0 0 0) : ACell), (.inr (.int, [.int 3]) : ACell), (.inr (.int, [.int 3, .int 0, .int 0, .int 0]) : ACell), (.inr (.int, []) : ACell)] (Is (some (.int 1)) [(.inl (0, [.ref 1, .ref 2, .ref 3, .ref 4, .ref 5]) : ACell), (.inr (.int, own_a 3 0) : ACell), (.inr (.int, own_a 3 0) : ACell), (.inr (.int, own_b m 0 0 0 1) : ACell), (.inr (.int, own_b m 0 0 1 0) : ACell), (.inr (.int, own_b m 0 0 0 0) : ACell), (.inr (.int, [.int 3]) : ACell), (.inr (.int, [.int 3, .int 0, .int 0, .int 0]) : ACell), (.inr (.int, []) : ACell), (.inr (.int, [.int 0, .int 0, .int 0, .int 0]) : ACell)]) := by
  refine e4 ?_
  refine s4_0 ?_
  refine s4_1 9 4 (by decide) rfl rfl ?_
  refine s4_3 rfl ?_
  refine s4_5 ?_
  refine s4_6 rfl ?_
  refine s4_8 ?_
  refine s4_9 ?_
  refine s4_10 (fun _ => ?_) (fun h => absurd h (by decide))
  refine s4_27 ?_
  refine s4_28 ?_
  refine s4_29 (fun h => absurd h (by decide)) (fun _ => ?_)
  refine s4_32 ?_
  refine s4_34 (fun _ => ?_) (fun h => absurd h (by decide))
  refine s4_46 ?_
  refine s4_47 ?_
  refine s4_48 (fun h => absurd h (by decide)) (fun _ => ?_)
  refine s4_51 ?_
  refine s4_53 (fun _ => ?_) (fun h => absurd h (by decide))
  refine s4_65 ?_
  refine s4_67 (fun _ => ?_) (fun h => absurd h (by decide))
  refine s4_84 ?_
  refine s4_85k 0 rfl rfl ?_
  refine s4_86 ?_
  refine s4_88 (fun h => absurd h (by decide)) (fun _ => ?_)
  refine s4_91 ?_
  refine s4_93 ?_
  refine s4_94 (fun _ => ?_) (fun h => absurd h (by decide))
  refine s4_107 ?_
  refine s4_109 ?_
  refine s4_110 (fun _ => ?_) (fun h => absurd h (by decide))
  refine s4_123 ?_
  refine s4_125 ?_
  refine s4_126 (fun _ => ?_) (fun h => absurd h (by decide))
  refine s4_139 ?_
  refine s4_141 ?_
  refine s4_142 (fun _ => ?_) (fun h => absurd h (by decide))
  refine s4_155 ?_
  refine s4_156 ?_
  exact s4_160 ⟨rfl, rfl⟩
theorem own_r168 {m : Nat} : M2 ⟨0, 0, 0, 0⟩ [.ref 0, .int 1, .int 1] [(.inl (0, [.ref 1, .ref 2, .ref 3, .ref 4, .ref 5]) : ACell), (.inr (.int, own_a 3 2) : ACell), (.inr (.int, own_a 3 2) : ACell), (.inr (.int, own_b m 0 0 2 1) : ACell), (.inr (.int, own_b m 0 0 0 0) : ACell), (.inr (.int, own_b m 0 2 0 0) : ACell)] (Is none [(.inl (0, [.ref 1, .ref 2, .ref 3, .ref 4, .ref 5]) : ACell), (.inr (.int, own_a 3 2) : ACell), (.inr (.int, own_a 1 2) : ACell), (.inr (.int, own_b m 0 1 2 1) : ACell), (.inr (.int, own_b m 0 3 0 0) : ACell), (.inr (.int, own_b m 0 0 0 1) : ACell)]) := by
  refine e2 ?_
  refine s2_0 ?_
  refine s2_1 ?_
  refine s2_2 rfl ?_
  refine s2_5k 16 rfl rfl ?_
  refine s2_6 (fun _ => ?_) (fun h => absurd h (by decide))
  refine s2_45 ?_
  refine s2_46 rfl ?_
  refine s2_49 ?_
  refine s2_50 ?_
  refine s2_51 1 rfl (by decide) rfl ?_
  refine s2_52 ?_
  refine s2_53 rfl ?_
  refine s2_56 ?_
  refine s2_57 ?_
  refine s2_58 rfl ?_
  refine s2_61 ?_
  refine s2_62 1 rfl (by decide) rfl ?_
  refine s2_63 1 rfl (by decide) rfl ?_
  refine s2_64 ?_
  refine s2_65 rfl ?_
  refine s2_68 ?_
  refine s2_69 ?_
  refine s2_70 1 rfl (by decide) rfl ?_
  refine s2_71 ?_
  refine s2_72 rfl ?_
  refine s2_75 ?_
  refine s2_76 1 rfl (by decide) rfl ?_
  refine s2_77 (fun _ => ?_) (fun h => absurd h (by decide))
  refine s2_90 ?_
  refine s2_91 rfl ?_
  refine s2_94 ?_
  refine s2_95 rfl ?_
  refine s2_98 ?_
  refine s2_99 1 rfl (by decide) rfl ?_
  refine s2_100 ?_
  refine s2_101 3 rfl (by decide) rfl ?_
  refine s2_102 ?_
  refine s2_103 rfl ?_
  refine s2_106 ?_
  refine s2_107 ?_
  refine s2_108 1 rfl (by decide) rfl ?_
  exact s2_109 ⟨rfl, rfl⟩
theorem own_r169 {m : Nat} : M4 ⟨0, 1, 4, 0⟩ [.ref 6, .int 1, .int 2, .int 2, .int 0, .int 1, .int 0, .int 1] [(.inl (0, [.ref 1, .ref 2, .ref 3, .ref 4, .ref 5]) : ACell), (.inr (.int, own_a 3 2) : ACell), (.inr (.int, own_a 1 2) : ACell), (.inr (.int, own_b m 0 1 2 1) : ACell), (.inr (.int, own_b m 0 3 0 0) : ACell), (.inr (.int, own_b m 0 0 0 1) : ACell), (.inr (.int, [.int 3, .int 1]) : ACell)] (Is (some (.int 1)) [(.inl (0, [.ref 1, .ref 2, .ref 3, .ref 4, .ref 5]) : ACell), (.inr (.int, own_a 3 2) : ACell), (.inr (.int, own_a 1 2) : ACell), (.inr (.int, own_b m 0 1 2 1) : ACell), (.inr (.int, own_b m 0 3 0 0) : ACell), (.inr (.int, own_b m 0 0 0 1) : ACell), (.inr (.int, [.int 3, .int 1]) : ACell), (.inr (.int, [.int 3, .int 1, .int 0, .int 0]) : ACell)]) := by
  refine e4 ?_
  refine s4_0 ?_
  refine s4_1 7 4 (by decide) rfl rfl ?_
  refine s4_3 rfl ?_
  refine s4_5 ?_
  refine s4_6 rfl ?_
  refine s4_8 ?_
  refine s4_9 ?_
  refine s4_10 (fun h => absurd h (by decide)) (fun _ => ?_)
  refine s4_13 ?_
  refine s4_15 (fun h => absurd h (by decide)) (fun _ => ?_)
  refine s4_18 ?_
  refine s4_20 ?_
  refine s4_22 ?_
  refine s4_23 0 rfl (by decide) rfl ?_
  refine s4_24 ?_
  refine s4_27 ?_
  refine s4_28 ?_
  refine s4_29 (fun _ => ?_) (fun h => absurd h (by decide))
  refine s4_46 ?_
  refine s4_47 ?_
  refine s4_48 (fun _ => ?_) (fun h => absurd h (by decide))
  refine s4_65 ?_
  refine s4_67 (fun h => absurd h (by decide)) (fun _ => ?_)
  refine s4_70 ?_
  refine s4_71 ?_
  refine s4_72 (fun h => absurd h (by decide)) (fun _ => ?_)
  refine s4_75 ?_
  refine s4_77 ?_
  refine s4_79 ?_
  refine s4_80 1 rfl (by decide) rfl ?_
  refine s4_81 ?_
  refine s4_84 ?_
  refine s4_85k 2 rfl rfl ?_
  refine s4_86 ?_
  refine s4_88 (fun h => absurd h (by decide)) (fun _ => ?_)
  refine s4_91 ?_
  refine s4_93 ?_
  refine s4_94 (fun h => absurd h (by decide)) (fun _ => ?_)
  refine s4_97 ?_
  refine s4_98 ?_
  refine s4_99 0 rfl (by decide) rfl ?_
  refine s4_100 ?_
  refine s4_102 ?_
  refine s4_103 0 rfl (by decide) rfl ?_
  refine s4_104 (fun h => absurd h (by decide)) (fun _ => ?_)
  refine s4_107 ?_
  refine s4_109 ?_
  refine s4_110 (fun h => absurd h (by decide)) (fun _ => ?_)
  refine s4_113 ?_
  refine s4_114 ?_
  refine s4_115 1 rfl (by decide) rfl ?_
  refine s4_116 ?_
  refine s4_118 ?_
  refine s4_119 1 rfl (by decide) rfl ?_
  refine s4_120 (fun h => absurd h (by decide)) (fun _ => ?_)
  refine s4_123 ?_
  refine s4_125 ?_
  refine s4_126 (fun _ => ?_) (fun h => absurd h (by decide))
  refine s4_139 ?_
  refine s4_141 ?_
  refine s4_142 (fun _ => ?_) (fun h => absurd h (by decide))
  refine s4_155 ?_
  refine s4_156 ?_
  exact s4_160 ⟨rfl, rfl⟩
theorem own_r170 {m : Nat} : M4 ⟨0, 1, 4, 0⟩ [.ref 8, .int 2, .int 2, .int 2, .int 0, .int 1, .int 0, .int 1] [(.inl (0, [.ref 1, .ref 2, .ref 3, .ref 4, .ref 5]) : ACell), (.inr (.int, own_a 3 2) : ACell), (.inr (.int, own_a 1 2) : ACell), (.inr (.int, own_b m 0 1 2 1) : ACell), (.inr (.int, own_b m 0 3 0 0) : ACell), (.inr (.int, own_b m 0 0 0 1) : ACell), (.inr (.int, [.int 3, .int 1]) : ACell), (.inr (.int, [.int 3, .int 1, .int 0, .int 0]) : ACell), (.inr (.int, [.int 2]) : ACell)] (Is (some (.int 1)) [(.inl (0, [.ref 1, .ref 2, .ref 3, .ref 4, .ref 5]) : ACell), (.inr (.int, own_a 3 2) : ACell), (.inr (.int, own_a 1 2) : ACell), (.inr (.int, own_b m 0 1 2 1) : ACell), (.inr (.int, own_b m 0 3 0 0) : ACell), (.inr (.int, own_b m 0 0 0 1) : ACell), (.inr (.int, [.int 3, .int 1]) : ACell), (.inr (.int, [.int 3, .int 1, .int 0, .int 0]) : ACell), (.inr (.int, [.int 2]) : ACell), (.inr (.int, [.int 2, .int 0, .int 0, .int 0]) : ACell)]) := by
  refine e4 ?_
  refine s4_0 ?_
  refine s4_1 9 4 (by decide) rfl rfl ?_
  refine s4_3 rfl ?_
  refine s4_5 ?_
  refine s4_6 rfl ?_
  refine s4_8 ?_
  refine s4_9 ?_
  refine s4_10 (fun _ => ?_) (fun h => absurd h (by decide))
  refine s4_27 ?_
  refine s4_28 ?_
  refine s4_29 (fun h => absurd h (by decide)) (fun _ => ?_)
  refine s4_32 ?_
  refine s4_34 (fun _ => ?_) (fun h => absurd h (by decide))
  refine s4_46 ?_
  refine s4_47 ?_
  refine s4_48 (fun h => absurd h (by decide)) (fun _ => ?_)
  refine s4_51 ?_
  refine s4_53 (fun h => absurd h (by decide)) (fun _ => ?_)
  refine s4_56 ?_
  refine s4_58 ?_
  refine s4_60 ?_
  refine s4_61 0 rfl (by decide) rfl ?_
  refine s4_62 ?_
  refine s4_65 ?_
  refine s4_67 (fun h => absurd h (by decide)) (fun _ => ?_)
  refine s4_70 ?_
  refine s4_71 ?_
  refine s4_72 (fun _ => ?_) (fun h => absurd h (by decide))
  refine s4_84 ?_
  refine s4_85k 1 rfl rfl ?_
  refine s4_86 ?_
  refine s4_88 (fun h => absurd h (by decide)) (fun _ => ?_)
  refine s4_91 ?_
  refine s4_93 ?_
  refine s4_94 (fun h => absurd h (by decide)) (fun _ => ?_)
  refine s4_97 ?_
  refine s4_98 ?_
  refine s4_99 0 rfl (by decide) rfl ?_
  refine s4_100 ?_
  refine s4_102 ?_
  refine s4_103 0 rfl (by decide) rfl ?_
  refine s4_104 (fun h => absurd h (by decide)) (fun _ => ?_)
  refine s4_107 ?_
  refine s4_109 ?_
  refine s4_110 (fun _ => ?_) (fun h => absurd h (by decide))
  refine s4_123 ?_
  refine s4_125 ?_
  refine s4_126 (fun _ => ?_) (fun h => absurd h (by decide))
  refine s4_139 ?_
  refine s4_141 ?_
  refine s4_142 (fun _ => ?_) (fun h => absurd h (by decide))
  refine s4_155 ?_
  refine s4_156 ?_
  exact s4_160 ⟨rfl, rfl⟩
theorem own_r171 {m : Nat} : M2 ⟨0, 0, 0, 0⟩ [.ref 0, .int 1, .int 1] [(.inl (0, [.ref 1, .ref 2, .ref 3, .ref 4, .ref 5]) : ACell), (.inr (.int, own_a 3 0) : ACell), (.inr (.int, own_a 3 0) : ACell), (.inr (.int, own_b m 0 0 0 1) : ACell), (.inr (.int, own_b m 0 0 1 0) : ACell), (.inr (.int, own_b m 0 0 0 0) : ACell)] (Is none [(.inl (0, [.ref 1, .ref 2, .ref 3, .ref 4, .ref 5]) : ACell), (.inr (.int, own_a 3 0) : ACell), (.inr (.int, own_a 1 0) : ACell), (.inr (.int, own_b m 0 1 0 1) : ACell), (.inr (.int, own_b m 0 3 1 0) : ACell), (.inr (.int, own_b m 0 0 0 1) : ACell)]) := by
  refine e2 ?_
  refine s2_0 ?_
  refine s2_1 ?_
  refine s2_2 rfl ?_
  refine s2_5k 16 rfl rfl ?_
  refine s2_6 (fun _ => ?_) (fun h => absurd h (by decide))
  refine s2_45 ?_
  refine s2_46 rfl ?_
  refine s2_49 ?_
  refine s2_50 ?_
  refine s2_51 1 rfl (by decide) rfl ?_
  refine s2_52 ?_
  refine s2_53 rfl ?_
  refine s2_56 ?_
  refine s2_57 ?_
  refine s2_58 rfl ?_
  refine s2_61 ?_
  refine s2_62 1 rfl (by decide) rfl ?_
  refine s2_63 1 rfl (by decide) rfl ?_
  refine s2_64 ?_
  refine s2_65 rfl ?_
  refine s2_68 ?_
  refine s2_69 ?_
  refine s2_70 1 rfl (by decide) rfl ?_
  refine s2_71 ?_
  refine s2_72 rfl ?_
  refine s2_75 ?_
  refine s2_76 1 rfl (by decide) rfl ?_
  refine s2_77 (fun _ => ?_) (fun h => absurd h (by decide))
  refine s2_90 ?_
  refine s2_91 rfl ?_
  refine s2_94 ?_
  refine s2_95 rfl ?_
  refine s2_98 ?_
  refine s2_99 1 rfl (by decide) rfl ?_
  refine s2_100 ?_
  refine s2_101 3 rfl (by decide) rfl ?_
  refine s2_102 ?_
  refine s2_103 rfl ?_
  refine s2_106 ?_
  refine s2_107 ?_
  refine s2_108 1 rfl (by decide) rfl ?_
  exact s2_109 ⟨rfl, rfl⟩
theorem own_r172 {m : Nat} : M4 ⟨0, 1, 4, 0⟩ [.ref 6, .int 1, .int 2, .int 2, .int 0, .int 1, .int 1, .int 1] [(.inl (0, [.ref 1, .ref 2, .ref 3, .ref 4, .ref 5]) : ACell), (.inr (.int, own_a 3 0) : ACell), (.inr (.int, own_a 1 0) : ACell), (.inr (.int, own_b m 0 1 0 1) : ACell), (.inr (.int, own_b m 0 3 1 0) : ACell), (.inr (.int, own_b m 0 0 0 1) : ACell), (.inr (.int, [.int 3, .int 1]) : ACell)] (Is (some (.int 1)) [(.inl (0, [.ref 1, .ref 2, .ref 3, .ref 4, .ref 5]) : ACell), (.inr (.int, own_a 3 0) : ACell), (.inr (.int, own_a 1 0) : ACell), (.inr (.int, own_b m 0 1 0 1) : ACell), (.inr (.int, own_b m 0 3 1 0) : ACell), (.inr (.int, own_b m 0 0 0 1) : ACell), (.inr (.int, [.int 3, .int 1]) : ACell), (.inr (.int, [.int 3, .int 1, .int 0, .int 0]) : ACell)]) := by
  refine e4 ?_
  refine s4_0 ?_
  refine s4_1 7 4 (by decide) rfl rfl ?_
  refine s4_3 rfl ?_
  refine s4_5 ?_
  refine s4_6 rfl ?_
  refine s4_8 ?_
  refine s4_9 ?_
  refine s4_10 (fun h => absurd h (by decide)) (fun _ => ?_)
  refine s4_13 ?_
  refine s4_15 (fun h => absurd h (by decide)) (fun _ => ?_)
  refine s4_18 ?_
  refine s4_20 ?_
  refine s4_22 ?_
  refine s4_23 0 rfl (by decide) rfl ?_
  refine s4_24 ?_
  refine s4_27 ?_
  refine s4_28 ?_
  refine s4_29 (fun _ => ?_) (fun h => absurd h (by decide))
  refine s4_46 ?_
  refine s4_47 ?_
  refine s4_48 (fun _ => ?_) (fun h => absurd h (by decide))
  refine s4_65 ?_
  refine s4_67 (fun h => absurd h (by decide)) (fun _ => ?_)
  refine s4_70 ?_
  refine s4_71 ?_
  refine s4_72 (fun h => absurd h (by decide)) (fun _ => ?_)
  refine s4_75 ?_
  refine s4_77 ?_
  refine s4_79 ?_
  refine s4_80 1 rfl (by decide) rfl ?_
  refine s4_81 ?_
  refine s4_84 ?_
  refine s4_85k 2 rfl rfl ?_
  refine s4_86 ?_
  refine s4_88 (fun h => absurd h (by decide)) (fun _ => ?_)
  refine s4_91 ?_
  refine s4_93 ?_
  refine s4_94 (fun h => absurd h (by decide)) (fun _ => ?_)
  refine s4_97 ?_
  refine s4_98 ?_
  refine s4_99 0 rfl (by decide) rfl ?_
  refine s4_100 ?_
  refine s4_102 ?_
  refine s4_103 0 rfl (by decide) rfl ?_
  refine s4_104 (fun h => absurd h (by decide)) (fun _ => ?_)
  refine s4_107 ?_
  refine s4_109 ?_
  refine s4_110 (fun h => absurd h (by decide)) (fun _ => ?_)
  refine s4_113 ?_
  refine s4_114 ?_
  refine s4_115 1 rfl (by decide) rfl ?_
  refine s4_116 ?_
  refine s4_118 ?_
  refine s4_119 1 rfl (by decide) rfl ?_
  refine s4_120 (fun h => absurd h (by decide)) (fun _ => ?_)
  refine s4_123 ?_
  refine s4_125 ?_
  refine s4_126 (fun _ => ?_) (fun h => absurd h (by decide))
  refine s4_139 ?_
  refine s4_141 ?_
  refine s4_142 (fun _ => ?_) (fun h => absurd h (by decide))
  refine s4_155 ?_
  refine s4_156 ?_
  exact s4_160 ⟨rfl, rfl⟩
theorem own_r173 {m : Nat} : M3 ⟨0, 1, 0, 0⟩ [.ref 0, .int 2] [(.inl (0, [.ref 1, .ref 2, .ref 3, .ref 4, .ref 5]) : ACell), (.inr (.int, own_a 3 0) : ACell), (.inr (.int, own_a 1 0) : ACell), (.inr (.int, own_b m 0 1 0 1) : ACell), (.inr (.int, own_b m 0 3 1 0) : ACell), (.inr (.int, own_b m 0 0 0 1) : ACell), (.inr (.int, [.int 3, .int 1]) : ACell), (.inr (.int, [.int 3, .int 1, .int 0, .int 0]) : ACell)] (Is (some (.ref 8)) [(.inl (0, [.ref 1, .ref 2, .ref 3, .ref 4, .ref 5]) : ACell), (.inr (.int, own_a 3 0) : ACell), (.inr (.int, own_a 1 0) : ACell), (.inr (.int, own_b m 0 1 0 1) : ACell), (.inr (.int, own_b m 0 3 1 0) : ACell), (.inr (.int, own_b m 0 0 0 1) : ACell), (.inr (.int, [.int 3, .int 1]) : ACell), (.inr (.int, [.int 3, .int 1, .int 0, .int 0]) : ACell), (.inr (.int, []) : ACell)]) := by
  refine e3 ?_
  refine s3_0 ?_
  refine s3_1 rfl ?_
  refine s3_2 ?_
  refine s3_3 rfl ?_
  refine s3_6 ?_
  refine s3_7 2 rfl (by decide) rfl ?_
  refine s3_8 rfl ?_
  refine s3_9 ?_
  refine s3_10 (fun _ => ?_) (fun h => absurd h (by decide))
  refine s3_26 ?_
  refine s3_27 8 0 (by decide) rfl rfl ?_
  refine s3_29 rfl ?_
  refine s3_30 ?_
  refine s3_31 rfl ?_
  refine s3_33 ?_
  refine s3_34 rfl ?_
  refine s3_37 ?_
  refine s3_38 2 rfl (by decide) rfl ?_
  refine s3_39 rfl ?_
  refine s3_41 ?_
  refine s3_43 (fun _ => ?_) (fun h => absurd h (by decide))
  refine s3_67 ?_
  exact s3_68 ⟨rfl, rfl⟩
theorem own_r174 {m : Nat} : M4 ⟨0, 1, 4, 0⟩ [.ref 8, .int 2, .int 2, .int 2, .int 0, .int 1, .int 1, .int 1] [(.inl (0, [.ref 1, .ref 2, .ref 3, .ref 4, .ref 5]) : ACell), (.inr (.int, own_a 3 0) : ACell), (.inr (.int, own_a 1 0) : ACell), (.inr (.int, own_b m 0 1 0 1) : ACell), (.inr (.int, own_b m 0 3 1 0) : ACell), (.inr (.int, own_b m 0 0 0 1) : ACell), (.inr (.int, [.int 3, .int 1]) : ACell), (.inr (.int, [.int 3, .int 1, .int 0, .int 0]) : ACell), (.inr (.int, []) : ACell)] (Is (some (.int 1)) [(.inl (0, [.ref 1, .ref 2, .ref 3, .ref 4, .ref 5]) : ACell), (.inr (.int, own_a 3 0) : ACell), (.inr (.int, own_a 1 0) : ACell), (.inr (.int, own_b m 0 1 0 1) : ACell), (.inr (.int, own_b m 0 3 1 0) : ACell), (.inr (.int, own_b m 0 0 0 1) : ACell), (.inr (.int, [.int 3, .int 1]) : ACell), (.inr (.int, [.int 3, .int 1, .int 0, .int 0]) : ACell), (.inr (.int, []) : ACell), (.inr (.int, [.int 0, .int 0, .int 0, .int 0]) : ACell)]) := by
  refine e4 ?_
  refine s4_0 ?_
  refine s4_1 9 4 (by decide) rfl rfl ?_
  refine s4_3 rfl ?_
  refine s4_5 ?_
  refine s4_6 rfl ?_
  refine s4_8 ?_
  refine s4_9 ?_
  refine s4_10 (fun _ => ?_) (fun h => absurd h (by decide))
  refine s4_27 ?_
  refine s4_28 ?_
  refine s4_29 (fun h => absurd h (by decide)) (fun _ => ?_)
  refine s4_32 ?_
  refine s4_34 (fun _ => ?_) (fun h => absurd h (by decide))
  refine s4_46 ?_
  refine s4_47 ?_
  refine s4_48 (fun h => absurd h (by decide)) (fun _ => ?_)
  refine s4_51 ?_
  refine s4_53 (fun _ => ?_) (fun h => absurd h (by decide))
  refine s4_65 ?_
  refine s4_67 (fun h => absurd h (by decide)) (fun _ => ?_)
  refine s4_70 ?_
  refine s4_71 ?_
  refine s4_72 (fun _ => ?_) (fun h => absurd h (by decide))
  refine s4_84 ?_
  refine s4_85k 0 rfl rfl ?_
  refine s4_86 ?_
  refine s4_88 (fun h => absurd h (by decide)) (fun _ => ?_)
  refine s4_91 ?_
  refine s4_93 ?_
  refine s4_94 (fun _ => ?_) (fun h => absurd h (by decide))
  refine s4_107 ?_
  refine s4_109 ?_
  refine s4_110 (fun _ => ?_) (fun h => absurd h (by decide))
  refine s4_123 ?_
  refine s4_125 ?_
  refine s4_126 (fun _ => ?_) (fun h => absurd h (by decide))
  refine s4_139 ?_
  refine s4_141 ?_
  refine s4_142 (fun _ => ?_) (fun h => absurd h (by decide))
  refine s4_155 ?_
  refine s4_156 ?_
  exact s4_160 ⟨rfl, rfl⟩
theorem own_r175 {m : Nat} : M5 ⟨0, 0, 0, 0⟩ [.ref 0, .int 3] [(.inl (0, [.ref 1, .ref 2, .ref 3, .ref 4, .ref 5]) : ACell), (.inr (.int, own_a 3 1) : ACell), (.inr (.int, own_a 3 2) : ACell), (.inr (.int, own_b m 0 2 2 1) : ACell), (.inr (.int, own_b m 0 0 1 0) : ACell), (.inr (.int, own_b m 0 2 0 0) : ACell)] (Is none [(.inl (0, [.ref 1, .ref 2, .ref 3, .ref 4, .ref 5]) : ACell), (.inr (.int, own_a 0 1) : ACell), (.inr (.int, own_a 0 2) : ACell), (.inr (.int, own_b m 0 2 2 0) : ACell), (.inr (.int, own_b m 0 0 1 0) : ACell), (.inr (.int, own_b m 0 2 0 0) : ACell)]) := by
  refine e5 ?_
  refine s5_0 ?_
  refine s5_1 rfl ?_
  refine s5_4 ?_
  refine s5_5 3 rfl (by decide) rfl ?_
  refine s5_6 rfl ?_
  refine s5_7 ?_
  refine s5_8 rfl ?_
  refine s5_11 ?_
  refine s5_12 3 rfl (by decide) rfl ?_
  refine s5_13 (fun h => absurd h (by decide)) (fun _ => ?_)
  refine s5_16 ?_
  refine s5_17 rfl ?_
  refine s5_20 ?_
  refine s5_21 ?_
  refine s5_22 rfl ?_
  refine s5_25 ?_
  refine s5_26 3 rfl (by decide) rfl ?_
  refine s5_27 1 rfl (by decide) rfl ?_
  refine s5_28 ?_
  refine s5_48 ?_
  refine s5_49 rfl ?_
  refine s5_52 ?_
  refine s5_53 3 rfl (by decide) rfl ?_
  refine s5_54 (fun h => absurd h (by decide)) (fun _ => ?_)
  refine s5_57 ?_
  refine s5_58 rfl ?_
  refine s5_61 ?_
  refine s5_62 ?_
  refine s5_63 rfl ?_
  refine s5_66 ?_
  refine s5_67 3 rfl (by decide) rfl ?_
  refine s5_68 1 rfl (by decide) rfl ?_
  refine s5_69 ?_
  refine s5_89 ?_
  refine s5_90 rfl ?_
  refine s5_93 ?_
  refine s5_94 ?_
  refine s5_95 3 rfl (by decide) rfl ?_
  exact s5_96 ⟨rfl, rfl⟩
theorem own_r176 {m : Nat} : M3 ⟨0, 1, 0, 0⟩ [.ref 0, .int 1] [(.inl (0, [.ref 1, .ref 2, .ref 3, .ref 4, .ref 5]) : ACell), (.inr (.int, own_a 0 1) : ACell), (.inr (.int, own_a 0 2) : ACell), (.inr (.int, own_b m 0 2 2 0) : ACell), (.inr (.int, own_b m 0 0 1 0) : ACell), (.inr (.int, own_b m 0 2 0 0) : ACell)] (Is (some (.ref 6)) [(.inl (0, [.ref 1, .ref 2, .ref 3, .ref 4, .ref 5]) : ACell), (.inr (.int, own_a 0 1) : ACell), (.inr (.int, own_a 0 2) : ACell), (.inr (.int, own_b m 0 2 2 0) : ACell), (.inr (.int, own_b m 0 0 1 0) : ACell), (.inr (.int, own_b m 0 2 0 0) : ACell), (.inr (.int, []) : ACell)]) := by
  refine e3 ?_
  refine s3_0 ?_
  refine s3_1 rfl ?_
  refine s3_2 ?_
  refine s3_3 rfl ?_
  refine s3_6 ?_
  refine s3_7 1 rfl (by decide) rfl ?_
  refine s3_8 rfl ?_
  refine s3_9 ?_
  refine s3_10 (fun _ => ?_) (fun h => absurd h (by decide))
  refine s3_26 ?_
  refine s3_27 6 0 (by decide) rfl rfl ?_
  refine s3_29 rfl ?_
  refine s3_30 ?_
  refine s3_31 rfl ?_
  refine s3_33 ?_
  refine s3_34 rfl ?_
  refine s3_37 ?_
  refine s3_38 1 rfl (by decide) rfl ?_
  refine s3_39 rfl ?_
  refine s3_41 ?_
  refine s3_43 (fun _ => ?_) (fun h => absurd h (by decide))
  refine s3_67 ?_
  exact s3_68 ⟨rfl, rfl⟩
theorem own_r177 {m : Nat} : M4 ⟨0, 1, 4, 0⟩ [.ref 6, .int 1, .int 2, .int 2, .int 1, .int 0, .int 0, .int 0] [(.inl (0, [.ref 1, .ref 2, .ref 3, .ref 4, .ref 5]) : ACell), (.inr (.int, own_a 0 1) : ACell), (.inr (.int, own_a 0 2) : ACell), (.inr (.int, own_b m 0 2 2 0) : ACell), (.inr (.int, own_b m 0 0 1 0) : ACell), (.inr (.int, own_b m 0 2 0 0) : ACell), (.inr (.int, []) : ACell)] (Is (some (.int 1)) [(.inl (0, [.ref 1, .ref 2, .ref 3, .ref 4, .ref 5]) : ACell), (.inr (.int, own_a 0 1) : ACell), (.inr (.int, own_a 0 2) : ACell), (.inr (.int, own_b m 0 2 2 0) : ACell), (.inr (.int, own_b m 0 0 1 0) : ACell), (.inr (.int, own_b m 0 2 0 0) : ACell), (.inr (.int, []) : ACell), (.inr (.int, [.int 0, .int 0, .int 0, .int 0]) : ACell)]) := by
  refine e4 ?_
  refine s4_0 ?_
  refine s4_1 7 4 (by decide) rfl rfl ?_
  refine s4_3 rfl ?_
  refine s4_5 ?_
  refine s4_6 rfl ?_
  refine s4_8 ?_
  refine s4_9 ?_
  refine s4_10 (fun h => absurd h (by decide)) (fun _ => ?_)
  refine s4_13 ?_
  refine s4_15 (fun _ => ?_) (fun h => absurd h (by decide))
  refine s4_27 ?_
  refine s4_28 ?_
  refine s4_29 (fun _ => ?_) (fun h => absurd h (by decide))
  refine s4_46 ?_
  refine s4_47 ?_
  refine s4_48 (fun _ => ?_) (fun h => absurd h (by decide))
  refine s4_65 ?_
  refine s4_67 (fun _ => ?_) (fun h => absurd h (by decide))
  refine s4_84 ?_
  refine s4_85k 0 rfl rfl ?_
  refine s4_86 ?_
  refine s4_88 (fun h => absurd h (by decide)) (fun _ => ?_)
  refine s4_91 ?_
  refine s4_93 ?_
  refine s4_94 (fun _ => ?_) (fun h => absurd h (by decide))
  refine s4_107 ?_
  refine s4_109 ?_
  refine s4_110 (fun _ => ?_) (fun h => absurd h (by decide))
  refine s4_123 ?_
  refine s4_125 ?_
  refine s4_126 (fun _ => ?_) (fun h => absurd h (by decide))
  refine s4_139 ?_
  refine s4_141 ?_
  refine s4_142 (fun _ => ?_) (fun h => absurd h (by decide))
  refine s4_155 ?_
  refine s4_156 ?_
  exact s4_160 ⟨rfl, rfl⟩
theorem own_r178 {m : Nat} : M3 ⟨0, 1, 2, 0⟩ [.ref 0, .int 2] [(.inl (0, [.ref 1, .ref 2, .ref 3, .ref 4, .ref 5]) : ACell), (.inr (.int, own_a 0 1) : ACell), (.inr (.int, own_a 0 2) : ACell), (.inr (.int, own_b m 0 2 2 0) : ACell), (.inr (.int, own_b m 0 0 1 0) : ACell), (.inr (.int, own_b m 0 2 0 0) : ACell), (.inr (.int, []) : ACell), (.inr (.int, [.int 0, .int 0, .int 0, .int 0]) : ACell)] (Is (some (.ref 8)) [(.inl (0, [.ref 1, .ref 2, .ref 3, .ref 4, .ref 5]) : ACell), (.inr (.int, own_a 0 1) : ACell), (.inr (.int, own_a 0 2) : ACell), (.inr (.int, own_b m 0 2 2 0) : ACell), (.inr (.int, own_b m 0 0 1 0) : ACell), (.inr (.int, own_b m 0 2 0 0) : ACell), (.inr (.int, []) : ACell), (.inr (.int, [.int 0, .int 0, .int 0, .int 0]) : ACell), (.inr (.int, [.int 1, .int 2]) : ACell)]) := by
  refine e3 ?_
  refine s3_0 ?_
  refine s3_1 rfl ?_
  refine s3_2 ?_
  refine s3_3 rfl ?_
  refine s3_6 ?_
  refine s3_7 2 rfl (by decide) rfl ?_
  refine s3_8 rfl ?_
  refine s3_9 ?_
  refine s3_10 (fun h => absurd h (by decide)) (fun _ => ?_)
  refine s3_13 ?_
  refine s3_16 ?_
  refine s3_17 rfl ?_
  refine s3_20 ?_
  refine s3_21 1 rfl (by decide) rfl ?_
  refine s3_22 rfl ?_
  refine s3_23 ?_
  refine s3_9 ?_
  refine s3_10 (fun h => absurd h (by decide)) (fun _ => ?_)
  refine s3_13 ?_
  refine s3_16 ?_
  refine s3_17 rfl ?_
  refine s3_20 ?_
  refine s3_21 2 rfl (by decide) rfl ?_
  refine s3_22 rfl ?_
  refine s3_23 ?_
  refine s3_9 ?_
  refine s3_10 (fun _ => ?_) (fun h => absurd h (by decide))
  refine s3_26 ?_
  refine s3_27 8 2 (by decide) rfl rfl ?_
  refine s3_29 rfl ?_
  refine s3_30 ?_
  refine s3_31 rfl ?_
  refine s3_33 ?_
  refine s3_34 rfl ?_
  refine s3_37 ?_
  refine s3_38 2 rfl (by decide) rfl ?_
  refine s3_39 rfl ?_
  refine s3_41 ?_
  refine s3_43 (fun h => absurd h (by decide)) (fun _ => ?_)
  refine s3_46 ?_
  refine s3_47 ?_
  refine s3_49 ?_
  refine s3_51 0 rfl (by decide) rfl ?_
  refine s3_52 ?_
  refine s3_55 ?_
  refine s3_56 rfl ?_
  refine s3_59 ?_
  refine s3_61 1 rfl (by decide) rfl ?_
  refine s3_62 rfl ?_
  refine s3_64 ?_
  refine s3_41 ?_
  refine s3_43 (fun h => absurd h (by decide)) (fun _ => ?_)
  refine s3_46 ?_
  refine s3_47 ?_
  refine s3_49 ?_
  refine s3_51 1 rfl (by decide) rfl ?_
  refine s3_52 ?_
  refine s3_55 ?_
  refine s3_56 rfl ?_
  refine s3_59 ?_
  refine s3_61 2 rfl (by decide) rfl ?_
  refine s3_62 rfl ?_
  refine s3_64 ?_
  refine s3_41 ?_
  refine s3_43 (fun _ => ?_) (fun h => absurd h (by decide))
  refine s3_67 ?_
  exact s3_68 ⟨rfl, rfl⟩
theorem own_r179 {m : Nat} : M4 ⟨0, 1, 4, 0⟩ [.ref 8, .int 2, .int 2, .int 2, .int 1, .int 0, .int 0, .int 0] [(.inl (0, [.ref 1, .ref 2, .ref 3, .ref 4, .ref 5]) : ACell), (.inr (.int, own_a 0 1) : ACell), (.inr (.int, own_a 0 2) : ACell), (.inr (.int, own_b m 0 2 2 0) : ACell), (.inr (.int, own_b m 0 0 1 0) : ACell), (.inr (.int, own_b m 0 2 0 0) : ACell), (.inr (.int, []) : ACell), (.inr (.int, [.int 0, .int 0, .int 0, .int 0]) : ACell), (.inr (.int, [.int 1, .int 2]) : ACell)] (Is (some (.int 1)) [(.inl (0, [.ref 1, .ref 2, .ref 3, .ref 4, .ref 5]) : ACell), (.inr (.int, own_a 0 1) : ACell), (.inr (.int, own_a 0 2) : ACell), (.inr (.int, own_b m 0 2 2 0) : ACell), (.inr (.int, own_b m 0 0 1 0) : ACell), (.inr (.int, own_b m 0 2 0 0) : ACell), (.inr (.int, []) : ACell), (.inr (.int, [.int 0, .int 0, .int 0, .int 0]) : ACell), (.inr (.int, [.int 1, .int 2]) : ACell), (.inr (.int, [.int 1, .int 2, .int 0, .int 0]) : ACell)]) := by
  refine e4 ?_
  refine s4_0 ?_
  refine s4_1 9 4 (by decide) rfl rfl ?_
  refine s4_3 rfl ?_
  refine s4_5 ?_
  refine s4_6 rfl ?_
  refine s4_8 ?_
  refine s4_9 ?_
  refine s4_10 (fun _ => ?_) (fun h => absurd h (by decide))
  refine s4_27 ?_
  refine s4_28 ?_
  refine s4_29 (fun h => absurd h (by decide)) (fun _ => ?_)
  refine s4_32 ?_
  refine s4_34 (fun h => absurd h (by decide)) (fun _ => ?_)
  refine s4_37 ?_
  refine s4_39 ?_
  refine s4_41 ?_
  refine s4_42 0 rfl (by decide) rfl ?_
  refine s4_43 ?_
  refine s4_46 ?_
  refine s4_47 ?_
  refine s4_48 (fun h => absurd h (by decide)) (fun _ => ?_)
  refine s4_51 ?_
  refine s4_53 (fun h => absurd h (by decide)) (fun _ => ?_)
  refine s4_56 ?_
  refine s4_58 ?_
  refine s4_60 ?_
  refine s4_61 1 rfl (by decide) rfl ?_
  refine s4_62 ?_
  refine s4_65 ?_
  refine s4_67 (fun _ => ?_) (fun h => absurd h (by decide))
  refine s4_84 ?_
  refine s4_85k 2 rfl rfl ?_
  refine s4_86 ?_
  refine s4_88 (fun h => absurd h (by decide)) (fun _ => ?_)
  refine s4_91 ?_
  refine s4_93 ?_
  refine s4_94 (fun h => absurd h (by decide)) (fun _ => ?_)
  refine s4_97 ?_
  refine s4_98 ?_
  refine s4_99 0 rfl (by decide) rfl ?_
  refine s4_100 ?_
  refine s4_102 ?_
  refine s4_103 0 rfl (by decide) rfl ?_
  refine s4_104 (fun h => absurd h (by decide)) (fun _ => ?_)
  refine s4_107 ?_
  refine s4_109 ?_
  refine s4_110 (fun h => absurd h (by decide)) (fun _ => ?_)
  refine s4_113 ?_
  refine s4_114 ?_
  refine s4_115 1 rfl (by decide) rfl ?_
  refine s4_116 ?_
  refine s4_118 ?_
  refine s4_119 1 rfl (by decide) rfl ?_
  refine s4_120 (fun h => absurd h (by decide)) (fun _ => ?_)
  refine s4_123 ?_
  refine s4_125 ?_
  refine s4_126 (fun _ => ?_) (fun h => absurd h (by decide))
  refine s4_139 ?_
  refine s4_141 ?_
  refine s4_142 (fun _ => ?_) (fun h => absurd h (by decide))
  refine s4_155 ?_
  refine s4_156 ?_
  exact s4_160 ⟨rfl, rfl⟩
theorem own_r180 {m : Nat} : M5 ⟨0, 0, 0, 0⟩ [.ref 0, .int 3] [(.inl (0, [.ref 1, .ref 2, .ref 3, .ref 4, .ref 5]) : ACell), (.inr (.int, own_a 3 1) : ACell), (.inr (.int, own_a 3 1) : ACell), (.inr (.int, own_b m 0 2 0 1) : ACell), (.inr (.int, own_b m 0 0 1 0) : ACell), (.inr (.int, own_b m 0 0 0 0) : ACell)] (Is none [(.inl (0, [.ref 1, .ref 2, .ref 3, .ref 4, .ref 5]) : ACell), (.inr (.int, own_a 0 1) : ACell), (.inr (.int, own_a 0 1) : ACell), (.inr (.int, own_b m 0 2 0 0) : ACell), (.inr (.int, own_b m 0 0 1 0) : ACell), (.inr (.int, own_b m 0 0 0 0) : ACell)]) := by
  refine e5 ?_
  refine s5_0 ?_
  refine s5_1 rfl ?_
  refine s5_4 ?_
  refine s5_5 3 rfl (by decide) rfl ?_
  refine s5_6 rfl ?_
  refine s5_7 ?_
  refine s5_8 rfl ?_
  refine s5_11 ?_
  refine s5_12 3 rfl (by decide) rfl ?_
  refine s5_13 (fun h => absurd h (by decide)) (fun _ => ?_)
  refine s5_16 ?_
  refine s5_17 rfl ?_
  refine s5_20 ?_
  refine s5_21 ?_
  refine s5_22 rfl ?_
  refine s5_25 ?_
  refine s5_26 3 rfl (by decide) rfl ?_
  refine s5_27 1 rfl (by decide) rfl ?_
  refine s5_28 ?_
  refine s5_48 ?_
  refine s5_49 rfl ?_
  refine s5_52 ?_
  refine s5_53 3 rfl (by decide) rfl ?_
  refine s5_54 (fun h => absurd h (by decide)) (fun _ => ?_)
  refine s5_57 ?_
  refine s5_58 rfl ?_
  refine s5_61 ?_
  refine s5_62 ?_
  refine s5_63 rfl ?_
  refine s5_66 ?_
  refine s5_67 3 rfl (by decide) rfl ?_
  refine s5_68 1 rfl (by decide) rfl ?_
  refine s5_69 ?_
  refine s5_89 ?_
  refine s5_90 rfl ?_
  refine s5_93 ?_
  refine s5_94 ?_
  refine s5_95 3 rfl (by decide) rfl ?_
  exact s5_96 ⟨rfl, rfl⟩
theorem own_r181 {m : Nat} : M3 ⟨0, 1, 0, 0⟩ [.ref 0, .int 1] [(.inl (0, [.ref 1, .ref 2, .ref 3, .ref 4, .ref 5]) : ACell), (.inr (.int, own_a 0 1) : ACell), (.inr (.int, own_a 0 1) : ACell), (.inr (.int, own_b m 0 2 0 0) : ACell), (.inr (.int, own_b m 0 0 1 0) : ACell), (.inr (.int, own_b m 0 0 0 0) : ACell)] (Is (some (.ref 6)) [(.inl (0, [.ref 1, .ref 2, .ref 3, .ref 4, .ref 5]) : ACell), (.inr (.int, own_a 0 1) : ACell), (.inr (.int, own_a 0 1) : ACell), (.inr (.int, own_b m 0 2 0 0) : ACell), (.inr (.int, own_b m 0 0 1 0) : ACell), (.inr (.int, own_b m 0 0 0 0) : ACell), (.inr (.int, []) : ACell)]) := by
  refine e3 ?_
  refine s3_0 ?_
  refine s3_1 rfl ?_
  refine s3_2 ?_
  refine s3_3 rfl ?_
  refine s3_6 ?_
  refine s3_7 1 rfl (by decide) rfl ?_
  refine s3_8 rfl ?_
  refine s3_9 ?_
  refine s3_10 (fun _ => ?_) (fun h => absurd h (by decide))
  refine s3_26 ?_
  refine s3_27 6 0 (by decide) rfl rfl ?_
  refine s3_29 rfl ?_
  refine s3_30 ?_
  refine s3_31 rfl ?_
  refine s3_33 ?_
  refine s3_34 rfl ?_
  refine s3_37 ?_
  refine s3_38 1 rfl (by decide) rfl ?_
  refine s3_39 rfl ?_
  refine s3_41 ?_
  refine s3_43 (fun _ => ?_) (fun h => absurd h (by decide))
  refine s3_67 ?_
  exact s3_68 ⟨rfl, rfl⟩
theorem own_r182 {m : Nat} : M4 ⟨0, 1, 4, 0⟩ [.ref 6, .int 1, .int 2, .int 2, .int 1, .int 0, .int 1, .int 0] [(.inl (0, [.ref 1, .ref 2, .ref 3, .ref 4, .ref 5]) : ACell), (.inr (.int, own_a 0 1) : ACell), (.inr (.int, own_a 0 1) : ACell), (.inr (.int, own_b m 0 2 0 0) : ACell), (.inr (.int, own_b m 0 0 1 0) : ACell), (.inr (.int, own_b m 0 0 0 0) : ACell), (.inr (.int, []) : ACell)] (Is (some (.int 1)) [(.inl (0, [.ref 1, .ref 2, .ref 3, .ref 4, .ref 5]) : ACell), (.inr (.int, own_a 0 1) : ACell), (.inr (.int, own_a 0 1) : ACell), (.inr (.int, own_b m 0 2 0 0) : ACell), (.inr (.int, own_b m 0 0 1 0) : ACell), (.inr (.int, own_b m 0 0 0 0) : ACell), (.inr (.int, []) : ACell), (.inr (.int, [.int 0, .int 0, .int 0, .int 0]) : ACell)]) := by
  refine e4 ?_
  refine s4_0 ?_
  refine s4_1 7 4 (by decide) rfl rfl ?_
  refine s4_3 rfl ?_
  refine s4_5 ?_
  refine s4_6 rfl ?_
  refine s4_8 ?_
  refine s4_9 ?_
  refine s4_10 (fun h => absurd h (by decide)) (fun _ => ?_)
  refine s4_13 ?_
  refine s4_15 (fun _ => ?_) (fun h => absurd h (by decide))
  refine s4_27 ?_
  refine s4_28 ?_
  refine s4_29 (fun _ => ?_) (fun h => absurd h (by decide))
  refine s4_46 ?_
  refine s4_47 ?_
  refine s4_48 (fun _ => ?_) (fun h => absurd h (by decide))
  refine s4_65 ?_
  refine s4_67 (fun _ => ?_) (fun h => absurd h (by decide))
  refine s4_84 ?_
  refine s4_85k 0 rfl rfl ?_
  refine s4_86 ?_
  refine s4_88 (fun h => absurd h (by decide)) (fun _ => ?_)
  refine s4_91 ?_
  refine s4_93 ?_
  refine s4_94 (fun _ => ?_) (fun h => absurd h (by decide))
  refine s4_107 ?_
  refine s4_109 ?_
  refine s4_110 (fun _ => ?_) (fun h => absurd h (by decide))
  refine s4_123 ?_
  refine s4_125 ?_
  refine s4_126 (fun _ => ?_) (fun h => absurd h (by decide))
  refine s4_139 ?_
  refine s4_141 ?_
  refine s4_142 (fun _ => ?_) (fun h => absurd h (by decide))
  refine s4_155 ?_
  refine s4_156 ?_
  exact s4_160 ⟨rfl, rfl⟩
theorem own_r183 {m : Nat} : M3 ⟨0, 1, 1, 0⟩ [.ref 0, .int 2] [(.inl (0, [.ref 1, .ref 2, .ref 3, .ref 4, .ref 5]) : ACell), (.inr (.int, own_a 0 1) : ACell), (.inr (.int, own_a 0 1) : ACell), (.inr (.int, own_b m 0 2 0 0) : ACell), (.inr (.int, own_b m 0 0 1 0) : ACell), (.inr (.int, own_b m 0 0 0 0) : ACell), (.inr (.int, []) : ACell), (.inr (.int, [.int 0, .int 0, .int 0, .int 0]) : ACell)] (Is (some (.ref 8)) [(.inl (0, [.ref 1, .ref 2, .ref 3, .ref 4, .ref 5]) : ACell), (.inr (.int, own_a 0 1) : ACell), (.inr (.int, own_a 0 1) : ACell), (.inr (.int, own_b m 0 2 0 0) : ACell), (.inr (.int, own_b m 0 0 1 0) : ACell), (.inr (.int, own_b m 0 0 0 0) : ACell), (.inr (.int, []) : ACell), (.inr (.int, [.int 0, .int 0, .int 0, .int 0]) : ACell), (.inr (.int, [.int 1]) : ACell)]) := by
  refine e3 ?_
  refine s3_0 ?_
  refine s3_1 rfl ?_
  refine s3_2 ?_
  refine s3_3 rfl ?_
  refine s3_6 ?_
  refine s3_7 2 rfl (by decide) rfl ?_
  refine s3_8 rfl ?_
  refine s3_9 ?_
  refine s3_10 (fun h => absurd h (by decide)) (fun _ => ?_)
  refine s3_13 ?_
  refine s3_16 ?_
  refine s3_17 rfl ?_
  refine s3_20 ?_
  refine s3_21 1 rfl (by decide) rfl ?_
  refine s3_22 rfl ?_
  refine s3_23 ?_
  refine s3_9 ?_
  refine s3_10 (fun _ => ?_) (fun h => absurd h (by decide))
  refine s3_26 ?_
  refine s3_27 8 1 (by decide) rfl rfl ?_
  refine s3_29 rfl ?_
  refine s3_30 ?_
  refine s3_31 rfl ?_
  refine s3_33 ?_
  refine s3_34 rfl ?_
  refine s3_37 ?_
  refine s3_38 2 rfl (by decide) rfl ?_
  refine s3_39 rfl ?_
  refine s3_41 ?_
  refine s3_43 (fun h => absurd h (by decide)) (fun _ => ?_)
  refine s3_46 ?_
  refine s3_47 ?_
  refine s3_49 ?_
  refine s3_51 0 rfl (by decide) rfl ?_
  refine s3_52 ?_
  refine s3_55 ?_
  refine s3_56 rfl ?_
  refine s3_59 ?_
  refine s3_61 1 rfl (by decide) rfl ?_
  refine s3_62 rfl ?_
  refine s3_64 ?_
  refine s3_41 ?_
  refine s3_43 (fun _ => ?_) (fun h => absurd h (by decide))
  refine s3_67 ?_
  exact s3_68 ⟨rfl, rfl⟩
theorem own_r184 {m : Nat} : M4 ⟨0, 1, 4, 0⟩ [.ref 8, .int 2, .int 2, .int 2, .int 1, .int 0, .int 1, .int 0] [(.inl (0, [.ref 1, .ref 2, .ref 3, .ref 4, .ref 5]) : ACell), (.inr (.int, own_a 0 1) : ACell), (.inr (.int, own_a 0 1) : ACell), (.inr (.int, own_b m 0 2 0 0) : ACell), (.inr (.int, own_b m 0 0 1 0) : ACell), (.inr (.int, own_b m 0 0 0 0) : ACell), (.inr (.int, []) : ACell), (.inr (.int, [.int 0, .int 0, .int 0, .int 0]) : ACell), (.inr (.int, [.int 1]) : ACell)] (Is (some (.int 1)) [(.inl (0, [.ref 1, .ref 2, .ref 3, .ref 4, .ref 5]) : ACell), (.inr (.int, own_a 0 1) : ACell), (.inr (.int, own_a 0 1) : ACell), (.inr (.int, own_b m 0 2 0 0) : ACell), (.inr (.int, own_b m 0 0 1 0) : ACell), (.inr (.int, own_b m 0 0 0 0) : ACell), (.inr (.int, []) : ACell), (.inr (.int, [.int 0, .int 0, .int 0, .int 0]) : ACell), (.inr (.int, [.int 1]) : ACell), (.inr (.int, [.int 1, .int 0, .int 0, .int 0]) : ACell)]) := by
  refine e4 ?_
  refine s4_0 ?_
  refine s4_1 9 4 (by decide) rfl rfl ?_
  refine s4_3 rfl ?_
  refine s4_5 ?_
  refine s4_6 rfl ?_
  refine s4_8 ?_
  refine s4_9 ?_
  refine s4_10 (fun _ => ?_) (fun h => absurd h (by decide))
  refine s4_27 ?_
  refine s4_28 ?_
  refine s4_29 (fun h => absurd h (by decide)) (fun _ => ?_)
  refine s4_32 ?_
  refine s4_34 (fun h => absurd h (by decide)) (fun _ => ?_)
  refine s4_37 ?_
  refine s4_39 ?_
  refine s4_41 ?_
  refine s4_42 0 rfl (by decide) rfl ?_
  refine s4_43 ?_
  refine s4_46 ?_
  refine s4_47 ?_
  refine s4_48 (fun h => absurd h (by decide)) (fun _ => ?_)
  refine s4_51 ?_
  refine s4_53 (fun _ => ?_) (fun h => absurd h (by decide))
  refine s4_65 ?_
  refine s4_67 (fun _ => ?_) (fun h => absurd h (by decide))
  refine s4_84 ?_
  refine s4_85k 1 rfl rfl ?_
  refine s4_86 ?_
  refine s4_88 (fun h => absurd h (by decide)) (fun _ => ?_)
  refine s4_91 ?_
  refine s4_93 ?_
  refine s4_94 (fun h => absurd h (by decide)) (fun _ => ?_)
  refine s4_97 ?_
  refine s4_98 ?_
  refine s4_99 0 rfl (by decide) rfl ?_
  refine s4_100 ?_
  refine s4_102 ?_
  refine s4_103 0 rfl (by decide) rfl ?_
  refine s4_104 (fun h => absurd h (by decide)) (fun _ => ?_)
  refine s4_107 ?_
  refine s4_109 ?_
  refine s4_110 (fun _ => ?_) (fun h => absurd h (by decide))
  refine s4_123 ?_
  refine s4_125 ?_
  refine s4_126 (fun _ => ?_) (fun h => absurd h (by decide))
  refine s4_139 ?_
  refine s4_141 ?_
  refine s4_142 (fun _ => ?_) (fun h => absurd h (by decide))
  refine s4_155 ?_
  refine s4_156 ?_
  exact s4_160 ⟨rfl, rfl⟩
theorem own_r185 {m : Nat} : M5 ⟨0, 0, 0, 0⟩ [.ref 0, .int 1] [(.inl (0, [.ref 1, .ref 2, .ref 3, .ref 4, .ref 5]) : ACell), (.inr (.int, own_a 0 1) : ACell), (.inr (.int, own_a 0 2) : ACell), (.inr (.int, own_b m 0 2 2 0) : ACell), (.inr (.int, own_b m 0 0 1 0) : ACell), (.inr (.int, own_b m 0 2 0 0) : ACell)] (Is none [(.inl (0, [.ref 1, .ref 2, .ref 3, .ref 4, .ref 5]) : ACell), (.inr (.int, own_a 0 2) : ACell), (.inr (.int, own_a 0 2) : ACell), (.inr (.int, own_b m 0 0 2 0) : ACell), (.inr (.int, own_b m 0 0 0 0) : ACell), (.inr (.int, own_b m 0 2 0 0) : ACell)]) := by
  refine e5 ?_
  refine s5_0 ?_
  refine s5_1 rfl ?_
  refine s5_4 ?_
  refine s5_5 1 rfl (by decide) rfl ?_
  refine s5_6 rfl ?_
  refine s5_7 ?_
  refine s5_8 rfl ?_
  refine s5_11 ?_
  refine s5_12 1 rfl (by decide) rfl ?_
  refine s5_13 (fun h => absurd h (by decide)) (fun _ => ?_)
  refine s5_16 ?_
  refine s5_17 rfl ?_
  refine s5_20 ?_
  refine s5_21 ?_
  refine s5_22 rfl ?_
  refine s5_25 ?_
  refine s5_26 1 rfl (by decide) rfl ?_
  refine s5_27 2 rfl (by decide) rfl ?_
  refine s5_28 ?_
  refine s5_48 ?_
  refine s5_49 rfl ?_
  refine s5_52 ?_
  refine s5_53 1 rfl (by decide) rfl ?_
  refine s5_54 (fun _ => ?_) (fun h => absurd h (by decide))
  refine s5_72 ?_
  refine s5_73 rfl ?_
  refine s5_76 ?_
  refine s5_77 rfl ?_
  refine s5_80 ?_
  refine s5_81 1 rfl (by decide) rfl ?_
  refine s5_82 ?_
  refine s5_83 rfl ?_
  refine s5_86 ?_
  refine s5_87 1 rfl (by decide) rfl ?_
  refine s5_88 2 rfl (by decide) rfl ?_
  refine s5_89 ?_
  refine s5_90 rfl ?_
  refine s5_93 ?_
  refine s5_94 ?_
  refine s5_95 1 rfl (by decide) rfl ?_
  exact s5_96 ⟨rfl, rfl⟩
theorem own_r186 {m : Nat} : M3 ⟨0, 1, 0, 0⟩ [.ref 0, .int 1] [(.inl (0, [.ref 1, .ref 2, .ref 3, .ref 4, .ref 5]) : ACell), (.inr (.int, own_a 0 2) : ACell), (.inr (.int, own_a 0 2) : ACell), (.inr (.int, own_b m 0 0 2 0) : ACell), (.inr (.int, own_b m 0 0 0 0) : ACell), (.inr (.int, own_b m 0 2 0 0) : ACell)] (Is (some (.ref 6)) [(.inl (0, [.ref 1, .ref 2, .ref 3, .ref 4, .ref 5]) : ACell), (.inr (.int, own_a 0 2) : ACell), (.inr (.int, own_a 0 2) : ACell), (.inr (.int, own_b m 0 0 2 0) : ACell), (.inr (.int, own_b m 0 0 0 0) : ACell), (.inr (.int, own_b m 0 2 0 0) : ACell), (.inr (.int, []) : ACell)]) := by
  refine e3 ?_
  refine s3_0 ?_
  refine s3_1 rfl ?_
  refine s3_2 ?_
  refine s3_3 rfl ?_
  refine s3_6 ?_
  refine s3_7 1 rfl (by decide) rfl ?_
  refine s3_8 rfl ?_
  refine s3_9 ?_
  refine s3_10 (fun _ => ?_) (fun h => absurd h (by decide))
  refine s3_26 ?_
  refine s3_27 6 0 (by decide) rfl rfl ?_
  refine s3_29 rfl ?_
  refine s3_30 ?_
  refine s3_31 rfl ?_
  refine s3_33 ?_
  refine s3_34 rfl ?_
  refine s3_37 ?_
  refine s3_38 1 rfl (by decide) rfl ?_
  refine s3_39 rfl ?_
  refine s3_41 ?_
  refine s3_43 (fun _ => ?_) (fun h => absurd h (by decide))
  refine s3_67 ?_
  exact s3_68 ⟨rfl, rfl⟩
theorem own_r187 {m : Nat} : M4 ⟨0, 1, 4, 0⟩ [.ref 6, .int 1, .int 2, .int 2, .int 1, .int 1, .int 0, .int 0] [(.inl (0, [.ref 1, .ref 2, .ref 3, .ref 4, .ref 5]) : ACell), (.inr (.int, own_a 0 2) : ACell), (.inr (.int, own_a 0 2) : ACell), (.inr (.int, own_b m 0 0 2 0) : ACell), (.inr (.int, own_b m 0 0 0 0) : ACell), (.inr (.int, own_b m 0 2 0 0) : ACell), (.inr (.int, []) : ACell)] (Is (some (.int 1)) [(.inl (0, [.ref 1, .ref 2, .ref 3, .ref 4, .ref 5]) : ACell), (.inr (.int, own_a 0 2) : ACell), (.inr (.int, own_a 0 2) : ACell), (.inr (.int, own_b m 0 0 2 0) : ACell), (.inr (.int, own_b m 0 0 0 0) : ACell), (.inr (.int, own_b m 0 2 0 0) : ACell), (.inr (.int, []) : ACell), (.inr (.int, [.int 0, .int 0, .int 0, .int 0]) : ACell)]) := by
  refine e4 ?_
  refine s4_0 ?_
  refine s4_1 7 4 (by decide) rfl rfl ?_
  refine s4_3 rfl ?_
  refine s4_5 ?_
  refine s4_6 rfl ?_
  refine s4_8 ?_
  refine s4_9 ?_
  refine s4_10 (fun h => absurd h (by decide)) (fun _ => ?_)
  refine s4_13 ?_
  refine s4_15 (fun _ => ?_) (fun h => absurd h (by decide))
  refine s4_27 ?_
  refine s4_28 ?_
  refine s4_29 (fun _ => ?_) (fun h => absurd h (by decide))
  refine s4_46 ?_
  refine s4_47 ?_
  refine s4_48 (fun _ => ?_) (fun h => absurd h (by decide))
  refine s4_65 ?_
  refine s4_67 (fun _ => ?_) (fun h => absurd h (by decide))
  refine s4_84 ?_
  refine s4_85k 0 rfl rfl ?_
  refine s4_86 ?_
  refine s4_88 (fun h => absurd h (by decide)) (fun _ => ?_)
  refine s4_91 ?_
  refine s4_93 ?_
  refine s4_94 (fun _ => ?_) (fun h => absurd h (by decide))
  refine s4_107 ?_
  refine s4_109 ?_
  refine s4_110 (fun _ => ?_) (fun h => absurd h (by decide))
  refine s4_123 ?_
  refine s4_125 ?_
  refine s4_126 (fun _ => ?_) (fun h => absurd h (by decide))
  refine s4_139 ?_
  refine s4_141 ?_
  refine s4_142 (fun _ => ?_) (fun h => absurd h (by decide))
  refine s4_155 ?_
  refine s4_156 ?_
  exact s4_160 ⟨rfl, rfl⟩
theorem own_r188 {m : Nat} : M3 ⟨0, 1, 1, 0⟩ [.ref 0, .int 2] [(.inl (0, [.ref 1, .ref 2, .ref 3, .ref 4, .ref 5]) : ACell), (.inr (.int, own_a 0 2) : ACell), (.inr (.int, own_a 0 2) : ACell), (.inr (.int, own_b m 0 0 2 0) : ACell), (.inr (.int, own_b m 0 0 0 0) : ACell), (.inr (.int, own_b m 0 2 0 0) : ACell), (.inr (.int, []) : ACell), (.inr (.int, [.int 0, .int 0, .int 0, .int 0]) : ACell)] (Is (some (.ref 8)) [(.inl (0, [.ref 1, .ref 2, .ref 3, .ref 4, .ref 5]) : ACell), (.inr (.int, own_a 0 2) : ACell), (.inr (.int, own_a 0 2) : ACell), (.inr (.int, own_b m 0 0 2 0) : ACell), (.inr (.int, own_b m 0 0 0 0) : ACell), (.inr (.int, own_b m 0 2 0 0) : ACell), (.inr (.int, []) : ACell), (.inr (.int, [.int 0, .int 0, .int 0, .int 0]) : ACell), (.inr (.int, [.int 2]) : ACell)]) := by
  refine e3 ?_
  refine s3_0 ?_
  refine s3_1 rfl ?_
  refine s3_2 ?_
  refine s3_3 rfl ?_
  refine s3_6 ?_
  refine s3_7 2 rfl (by decide) rfl ?_
  refine s3_8 rfl ?_
  refine s3_9 ?_
  refine s3_10 (fun h => absurd h (by decide)) (fun _ => ?_)
  refine s3_13 ?_
  refine s3_16 ?_
  refine s3_17 rfl ?_
  refine s3_20 ?_
  refine s3_21 2 rfl (by decide) rfl ?_
  refine s3_22 rfl ?_
  refine s3_23 ?_
  refine s3_9 ?_
  refine s3_10 (fun _ => ?_) (fun h => absurd h (by decide))
  refine s3_26 ?_
  refine s3_27 8 1 (by decide) rfl rfl ?_
  refine s3_29 rfl ?_
  refine s3_30 ?_
  refine s3_31 rfl ?_
  refine s3_33 ?_
  refine s3_34 rfl ?_
  refine s3_37 ?_
  refine s3_38 2 rfl (by decide) rfl ?_
  refine s3_39 rfl ?_
  refine s3_41 ?_
  refine s3_43 (fun h => absurd h (by decide)) (fun _ => ?_)
  refine s3_46 ?_
  refine s3_47 ?_
  refine s3_49 ?_
  refine s3_51 0 rfl (by decide) rfl ?_
  refine s3_52 ?_
  refine s3_55 ?_
  refine s3_56 rfl ?_
  refine s3_59 ?_
  refine s3_61 2 rfl (by decide) rfl ?_
  refine s3_62 rfl ?_
  refine s3_64 ?_
  refine s3_41 ?_
  refine s3_43 (fun _ => ?_) (fun h => absurd h (by decide))
  refine s3_67 ?_
  exact s3_68 ⟨rfl, rfl⟩
theorem own_r189 {m : Nat} : M4 ⟨0, 1, 4, 0⟩ [.ref 8, .int 2, .int 2, .int 2, .int 1, .int 1, .int 0, .int 0] [(.inl (0, [.ref 1, .ref 2, .ref 3, .ref 4, .ref 5]) : ACell), (.inr (.int, own_a 0 2) : ACell), (.inr (.int, own_a 0 2) : ACell), (.inr (.int, own_b m 0 0 2 0) : ACell), (.inr (.int, own_b m 0 0 0 0) : ACell), (.inr (.int, own_b m 0 2 0 0) : ACell), (.inr (.int, []) : ACell), (.inr (.int, [.int 0, .int 0, .int 0, .int 0]) : ACell), (.inr (.int, [.int 2]) : ACell)] (Is (some (.int 1)) [(.inl (0, [.ref 1, .ref 2, .ref 3, .ref 4, .ref 5]) : ACell), (.inr (.int, own_a 0 2) : ACell), (.inr (.int, own_a 0 2) : ACell), (.inr (.int, own_b m 0 0 2 0) : ACell), (.inr (.int, own_b m 0 0 0 0) : ACell), (.inr (.int, own_b m 0 2 0 0) : ACell), (.inr (.int, []) : ACell), (.inr (.int, [.int 0, .int 0, .int 0, .int 0]) : ACell), (.inr (.int, [.int 2]) : ACell), (.inr (.int, [.int 2, .int 0, .int 0, .int 0]) : ACell)]) := by
  refine e4 ?_
  refine s4_0 ?_
  refine s4_1 9 4 (by decide) rfl rfl ?_
  refine s4_3 rfl ?_
  refine s4_5 ?_
  refine s4_6 rfl ?_
  refine s4_8 ?_
  refine s4_9 ?_
  refine s4_10 (fun _ => ?_) (fun h => absurd h (by decide))
  refine s4_27 ?_
  refine s4_28 ?_
  refine s4_29 (fun h => absurd h (by decide)) (fun _ => ?_)
  refine s4_32 ?_
  refine s4_34 (fun _ => ?_) (fun h => absurd h (by decide))
  refine s4_46 ?_
  refine s4_47 ?_
  refine s4_48 (fun h => absurd h (by decide)) (fun _ => ?_)
  refine s4_51 ?_
  refine s4_53 (fun h => absurd h (by decide)) (fun _ => ?_)
  refine s4_56 ?_
  refine s4_58 ?_
  refine s4_60 ?_
  refine s4_61 0 rfl (by decide) rfl ?_
  refine s4_62 ?_
  refine s4_65 ?_
  refine s4_67 (fun _ => ?_) (fun h => absurd h (by decide))
  refine s4_84 ?_
  refine s4_85k 1 rfl rfl ?_
  refine s4_86 ?_
  refine s4_88 (fun h => absurd h (by decide)) (fun _ => ?_)
  refine s4_91 ?_
  refine s4_93 ?_
  refine s4_94 (fun h => absurd h (by decide)) (fun _ => ?_)
  refine s4_97 ?_
  refine s4_98 ?_
  refine s4_99 0 rfl (by decide) rfl ?_
  refine s4_100 ?_
  refine s4_102 ?_
  refine s4_103 0 rfl (by decide) rfl ?_
  refine s4_104 (fun h => absurd h (by decide)) (fun _ => ?_)
  refine s4_107 ?_
  refine s4_109 ?_
  refine s4_110 (fun _ => ?_) (fun h => absurd h (by decide))
  refine s4_123 ?_
  refine s4_125 ?_
  refine s4_126 (fun _ => ?_) (fun h => absurd h (by decide))
  refine s4_139 ?_
  refine s4_141 ?_
  refine s4_142 (fun _ => ?_) (fun h => absurd h (by decide))
  refine s4_155 ?_
  refine s4_156 ?_
  exact s4_160 ⟨rfl, rfl⟩
theorem own_r190 {m : Nat} : M5 ⟨0, 0, 0, 0⟩ [.ref 0, .int 1] [(.inl (0, [.ref 1, .ref 2, .ref 3, .ref 4, .ref 5]) : ACell), (.inr (.int, own_a 0 1) : ACell), (.inr (.int, own_a 0 1) : ACell), (.inr (.int, own_b m 0 2 0 0) : ACell), (.inr (.int, own_b m 0 0 1 0) : ACell), (.inr (.int, own_b m 0 0 0 0) : ACell)] (Is none [(.inl (0, [.ref 1, .ref 2, .ref 3, .ref 4, .ref 5]) : ACell), (.inr (.int, own_a 0 0) : ACell), (.inr (.int, own_a 0 0) : ACell), (.inr (.int, own_b m 0 0 0 0) : ACell), (.inr (.int, own_b m 0 0 1 0) : ACell), (.inr (.int, own_b m 0 0 0 0) : ACell)]) := by
  refine e5 ?_
  refine s5_0 ?_
  refine s5_1 rfl ?_
  refine s5_4 ?_
  refine s5_5 1 rfl (by decide) rfl ?_
  refine s5_6 rfl ?_
  refine s5_7 ?_
  refine s5_8 rfl ?_
  refine s5_11 ?_
  refine s5_12 1 rfl (by decide) rfl ?_
  refine s5_13 (fun h => absurd h (by decide)) (fun _ => ?_)
  refine s5_16 ?_
  refine s5_17 rfl ?_
  refine s5_20 ?_
  refine s5_21 ?_
  refine s5_22 rfl ?_
  refine s5_25 ?_
  refine s5_26 1 rfl (by decide) rfl ?_
  refine s5_27 2 rfl (by decide) rfl ?_
  refine s5_28 ?_
  refine s5_48 ?_
  refine s5_49 rfl ?_
  refine s5_52 ?_
  refine s5_53 1 rfl (by decide) rfl ?_
  refine s5_54 (fun h => absurd h (by decide)) (fun _ => ?_)
  refine s5_57 ?_
  refine s5_58 rfl ?_
  refine s5_61 ?_
  refine s5_62 ?_
  refine s5_63 rfl ?_
  refine s5_66 ?_
  refine s5_67 1 rfl (by decide) rfl ?_
  refine s5_68 2 rfl (by decide) rfl ?_
  refine s5_69 ?_
  refine s5_89 ?_
  refine s5_90 rfl ?_
  refine s5_93 ?_
  refine s5_94 ?_
  refine s5_95 1 rfl (by decide) rfl ?_
  exact s5_96 ⟨rfl, rfl⟩
theorem own_r191 {m : Nat} : M3 ⟨0, 1, 0, 0⟩ [.ref 0, .int 1] [(.inl (0, [.ref 1, .ref 2, .ref 3, .ref 4, .ref 5]) : ACell), (.inr (.int, own_a 0 0) : ACell), (.inr (.int, own_a 0 0) : ACell), (.inr (.int, own_b m 0 0 0 0) : ACell), (.inr (.int, own_b m 0 0 1 0) : ACell), (.inr (.int, own_b m 0 0 0 0) : ACell)] (Is (some (.ref 6)) [(.inl (0, [.ref 1, .ref 2, .ref 3, .ref 4, .ref 5]) : ACell), (.inr (.int, own_a 0 0) : ACell), (.inr (.int, own_a 0 0) : ACell), (.inr (.int, own_b m 0 0 0 0) : ACell), (.inr (.int, own_b m 0 0 1 0) : ACell), (.inr (.int, own_b m 0 0 0 0) : ACell), (.inr (.int, []) : ACell)]) := by
  refine e3 ?_
  refine s3_0 ?_
  refine s3_1 rfl ?_
  refine s3_2 ?_
  refine s3_3 rfl ?_
  refine s3_6 ?_
  refine s3_7 1 rfl (by decide) rfl ?_
  refine s3_8 rfl ?_
  refine s3_9 ?_
  refine s3_10 (fun _ => ?_) (fun h => absurd h (by decide))
  refine s3_26 ?_
  refine s3_27 6 0 (by decide) rfl rfl ?_
  refine s3_29 rfl ?_
  refine s3_30 ?_
  refine s3_31 rfl ?_
  refine s3_33 ?_
  refine s3_34 rfl ?_
  refine s3_37 ?_
  refine s3_38 1 rfl (by decide) rfl ?_
  refine s3_39 rfl ?_
  refine s3_41 ?_
  refine s3_43 (fun _ => ?_) (fun h => absurd h (by decide))
  refine s3_67 ?_
  exact s3_68 ⟨rfl, rfl⟩
theorem own_r192 {m : Nat} : M4 ⟨0, 1, 4, 0⟩ [.ref 6, .int 1, .int 2, .int 2, .int 1, .int 1, .int 1, .int 0] [(.inl (0, [.ref 1, .ref 2, .ref 3, .ref 4, .ref 5]) : ACell), (.inr (.int, own_a 0 0) : ACell), (.inr (.int, own_a 0 0) : ACell), (.inr (.int, own_b m 0 0 0 0) : ACell), (.inr (.int, own_b m 0 0 1 0) : ACell), (.inr (.int, own_b m 0 0 0 0) : ACell), (.inr (.int, []) : ACell)] (Is (some (.int 1)) [(.inl (0, [.ref 1, .ref 2, .ref 3, .ref 4, .ref 5]) : ACell), (.inr (.int, own_a 0 0) : ACell), (.inr (.int, own_a 0 0) : ACell), (.inr (.int, own_b m 0 0 0 0) : ACell), (.inr (.int, own_b m 0 0 1 0) : ACell), (.inr (.int, own_b m 0 0 0 0) : ACell), (.inr (.int, []) : ACell), (.inr (.int, [.int 0, .int 0, .int 0, .int 0]) : ACell)]) := by
  refine e4 ?_
  refine s4_0 ?_
  refine s4_1 7 4 (by decide) rfl rfl ?_
  refine s4_3 rfl ?_
  refine s4_5 ?_
  refine s4_6 rfl ?_
  refine s4_8 ?_
  refine s4_9 ?_
  refine s4_10 (fun h => absurd h (by decide)) (fun _ => ?_)
  refine s4_13 ?_
  refine s4_15 (fun _ => ?_) (fun h => absurd h (by decide))
  refine s4_27 ?_
  refine s4_28 ?_
  refine s4_29 (fun _ => ?_) (fun h => absurd h (by decide))
  refine s4_46 ?_
  refine s4_47 ?_
  refine s4_48 (fun _ => ?_) (fun h => absurd h (by decide))
  refine s4_65 ?_
  refine s4_67 (fun _ => ?_) (fun h => absurd h (by decide))
  refine s4_84 ?_
  refine s4_85k 0 rfl rfl ?_
  refine s4_86 ?_
  refine s4_88 (fun h => absurd h (by decide)) (fun _ => ?_)
  refine s4_91 ?_
  refine s4_93 ?_
  refine s4_94 (fun _ => ?_) (fun h => absurd h (by decide))
  refine s4_107 ?_
  refine s4_109 ?_
  refine s4_110 (fun _ => ?_) (fun h => absurd h (by decide))
  refine s4_123 ?_
  refine s4_125 ?_
  refine s4_126 (fun _ => ?_) (fun h => absurd h (by decide))
  refine s4_139 ?_
  refine s4_141 ?_
  refine s4_142 (fun _ => ?_) (fun h => absurd h (by decide))
  refine s4_155 ?_
  refine s4_156 ?_
  exact s4_160 ⟨rfl, rfl⟩
theorem own_r193 {m : Nat} : M3 ⟨0, 1, 0, 0⟩ [.ref 0, .int 2] [(.inl (0, [.ref 1, .ref 2, .ref 3, .ref 4, .ref 5]) : ACell), (.inr (.int, own_a 0 0) : ACell), (.inr (.int, own_a 0 0) : ACell), (.inr (.int, own_b m 0 0 0 0) : ACell), (.inr (.int, own_b m 0 0 1 0) : ACell), (.inr (.int, own_b m 0 0 0 0) : ACell), (.inr (.int, []) : ACell), (.inr (.int, [.int 0, .int 0, .int 0, .int 0]) : ACell)] (Is (some (.ref 8)) [(.inl (0, [.ref 1, .ref 2, .ref 3, .ref 4, .ref 5]) : ACell), (.inr (.int, own_a 0 0) : ACell), (.inr (.int, own_a 0 0) : ACell), (.inr (.int, own_b m 0 0 0 0) : ACell), (.inr (.int, own_b m 0 0 1 0) : ACell), (.inr (.int, own_b m 0 0 0 0) : ACell), (.inr (.int, []) : ACell), (.inr (.int, [.int 0, .int 0, .int 0, .int 0]) : ACell), (.inr (.int, []) : ACell)]) := by
  refine e3 ?_
  refine s3_0 ?_
  refine s3_1 rfl ?_
  refine s3_2 ?_
  refine s3_3 rfl ?_
  refine s3_6 ?_
  refine s3_7 2 rfl (by decide) rfl ?_
  refine s3_8 rfl ?_
  refine s3_9 ?_
  refine s3_10 (fun _ => ?_) (fun h => absurd h (by decide))
  refine s3_26 ?_
  refine s3_27 8 0 (by decide) rfl rfl ?_
  refine s3_29 rfl ?_
  refine s3_30 ?_
  refine s3_31 rfl ?_
  refine s3_33 ?_
  refine s3_34 rfl ?_
  refine s3_37 ?_
  refine s3_38 2 rfl (by decide) rfl ?_
  refine s3_39 rfl ?_
  refine s3_41 ?_
  refine s3_43 (fun _ => ?_) (fun h => absurd h (by decide))
  refine s3_67 ?_
  exact s3_68 ⟨rfl, rfl⟩
theorem own_r194 {m : Nat} : M4 ⟨0, 1, 4, 0⟩ [.ref 8, .int 2, .int 2, .int 2, .int 1, .int 1, .int 1, .int 0] [(.inl (0, [.ref 1, .ref 2, .ref 3, .ref 4, .ref 5]) : ACell), (.inr (.int, own_a 0 0) : ACell), (.inr (.int, own_a 0 0) : ACell), (.inr (.int, own_b m 0 0 0 0) : ACell), (.inr (.int, own_b m 0 0 1 0) : ACell), (.inr (.int, own_b m 0 0 0 0) : ACell), (.inr (.int, []) : ACell), (.inr (.int, [.int 0, .int 0, .int 0, .int 0]) : ACell), (.inr (.int, []) : ACell)] (Is (some (.int 1)) [(.inl (0, [.ref 1, .ref 2, .ref 3, .ref 4, .ref 5]) : ACell), (.inr (.int, own_a 0 0) : ACell), (.inr (.int, own_a 0 0) : ACell), (.inr (.int, own_b m 0 0 0 0) : ACell), (.inr (.int, own_b m 0 0 1 0) : ACell), (.inr (.int, own_b m 0 0 0 0) : ACell), (.inr (.int, []) : ACell), (.inr (.int, [.int 0, .int 0, .int 0, .int 0]) : ACell), (.inr (.int, []) : ACell), (.inr (.int, [.int 0, .int 0, .int 0, .int 0]) : ACell)]) := by
  refine e4 ?_
  refine s4_0 ?_
  refine s4_1 9 4 (by decide) rfl rfl ?_
  refine s4_3 rfl ?_
  refine s4_5 ?_
  refine s4_6 rfl ?_
  refine s4_8 ?_
  refine s4_9 ?_
  refine s4_10 (fun _ => ?_) (fun h => absurd h (by decide))
  refine s4_27 ?_
  refine s4_28 ?_
  refine s4_29 (fun h => absurd h (by decide)) (fun _ => ?_)
  refine s4_32 ?_
  refine s4_34 (fun _ => ?_) (fun h => absurd h (by decide))
  refine s4_46 ?_
  refine s4_47 ?_
  refine s4_48 (fun h => absurd h (by decide)) (fun _ => ?_)
  refine s4_51 ?_
  refine s4_53 (fun _ => ?_) (fun h => absurd h (by decide))
  refine s4_65 ?_
  refine s4_67 (fun _ => ?_) (fun h => absurd h (by decide))
  refine s4_84 ?_
  refine s4_85k 0 rfl rfl ?_
  refine s4_86 ?_
  refine s4_88 (fun h => absurd h (by decide)) (fun _ => ?_)
  refine s4_91 ?_
  refine s4_93 ?_
  refine s4_94 (fun _ => ?_) (fun h => absurd h (by decide))
  refine s4_107 ?_
  refine s4_109 ?_
  refine s4_110 (fun _ => ?_) (fun h => absurd h (by decide))
  refine s4_123 ?_
  refine s4_125 ?_
  refine s4_126 (fun _ => ?_) (fun h => absurd h (by decide))
  refine s4_139 ?_
  refine s4_141 ?_
  refine s4_142 (fun _ => ?_) (fun h => absurd h (by decide))
  refine s4_155 ?_
  refine s4_156 ?_
  exact s4_160 ⟨rfl, rfl⟩
theorem own_r195 {m : Nat} : M2 ⟨0, 0, 0, 0⟩ [.ref 0, .int 1, .int 1] [(.inl (0, [.ref 1, .ref 2, .ref 3, .ref 4, .ref 5]) : ACell), (.inr (.int, own_a 0 2) : ACell), (.inr (.int, own_a 0 2) : ACell), (.inr (.int, own_b m 0 0 2 0) : ACell), (.inr (.int, own_b m 0 0 0 0) : ACell), (.inr (.int, own_b m 0 2 0 0) : ACell)] (Is none [(.inl (0, [.ref 1, .ref 2, .ref 3, .ref 4, .ref 5]) : ACell), (.inr (.int, own_a 1 2) : ACell), (.inr (.int, own_a 1 2) : ACell), (.inr (.int, own_b m 0 1 2 0) : ACell), (.inr (.int, own_b m 0 0 0 0) : ACell), (.inr (.int, own_b m 0 0 0 0) : ACell)]) := by
  refine e2 ?_
  refine s2_0 ?_
  refine s2_1 ?_
  refine s2_2 rfl ?_
  refine s2_5k 16 rfl rfl ?_
  refine s2_6 (fun _ => ?_) (fun h => absurd h (by decide))
  refine s2_45 ?_
  refine s2_46 rfl ?_
  refine s2_49 ?_
  refine s2_50 ?_
  refine s2_51 1 rfl (by decide) rfl ?_
  refine s2_52 ?_
  refine s2_53 rfl ?_
  refine s2_56 ?_
  refine s2_57 ?_
  refine s2_58 rfl ?_
  refine s2_61 ?_
  refine s2_62 1 rfl (by decide) rfl ?_
  refine s2_63 1 rfl (by decide) rfl ?_
  refine s2_64 ?_
  refine s2_65 rfl ?_
  refine s2_68 ?_
  refine s2_69 ?_
  refine s2_70 1 rfl (by decide) rfl ?_
  refine s2_71 ?_
  refine s2_72 rfl ?_
  refine s2_75 ?_
  refine s2_76 1 rfl (by decide) rfl ?_
  refine s2_77 (fun h => absurd h (by decide)) (fun _ => ?_)
  refine s2_80 ?_
  refine s2_81 rfl ?_
  refine s2_84 ?_
  refine s2_85 ?_
  refine s2_86 1 rfl (by decide) rfl ?_
  refine s2_87 ?_
  refine s2_102 ?_
  refine s2_103 rfl ?_
  refine s2_106 ?_
  refine s2_107 ?_
  refine s2_108 1 rfl (by decide) rfl ?_
  exact s2_109 ⟨rfl, rfl⟩
theorem own_r196 {m : Nat} : M3 ⟨0, 1, 1, 0⟩ [.ref 0, .int 1] [(.inl (0, [.ref 1, .ref 2, .ref 3, .ref 4, .ref 5]) : ACell), (.inr (.int, own_a 1 2) : ACell), (.inr (.int, own_a 1 2) : ACell), (.inr (.int, own_b m 0 1 2 0) : ACell), (.inr (.int, own_b m 0 0 0 0) : ACell), (.inr (.int, own_b m 0 0 0 0) : ACell)] (Is (some (.ref 6)) [(.inl (0, [.ref 1, .ref 2, .ref 3, .ref 4, .ref 5]) : ACell), (.inr (.int, own_a 1 2) : ACell), (.inr (.int, own_a 1 2) : ACell), (.inr (.int, own_b m 0 1 2 0) : ACell), (.inr (.int, own_b m 0 0 0 0) : ACell), (.inr (.int, own_b m 0 0 0 0) : ACell), (.inr (.int, [.int 1]) : ACell)]) := by
  refine e3 ?_
  refine s3_0 ?_
  refine s3_1 rfl ?_
  refine s3_2 ?_
  refine s3_3 rfl ?_
  refine s3_6 ?_
  refine s3_7 1 rfl (by decide) rfl ?_
  refine s3_8 rfl ?_
  refine s3_9 ?_
  refine s3_10 (fun h => absurd h (by decide)) (fun _ => ?_)
  refine s3_13 ?_
  refine s3_16 ?_
  refine s3_17 rfl ?_
  refine s3_20 ?_
  refine s3_21 1 rfl (by decide) rfl ?_
  refine s3_22 rfl ?_
  refine s3_23 ?_
  refine s3_9 ?_
  refine s3_10 (fun _ => ?_) (fun h => absurd h (by decide))
  refine s3_26 ?_
  refine s3_27 6 1 (by decide) rfl rfl ?_
  refine s3_29 rfl ?_
  refine s3_30 ?_
  refine s3_31 rfl ?_
  refine s3_33 ?_
  refine s3_34 rfl ?_
  refine s3_37 ?_
  refine s3_38 1 rfl (by decide) rfl ?_
  refine s3_39 rfl ?_
  refine s3_41 ?_
  refine s3_43 (fun h => absurd h (by decide)) (fun _ => ?_)
  refine s3_46 ?_
  refine s3_47 ?_
  refine s3_49 ?_
  refine s3_51 0 rfl (by decide) rfl ?_
  refine s3_52 ?_
  refine s3_55 ?_
  refine s3_56 rfl ?_
  refine s3_59 ?_
  refine s3_61 1 rfl (by decide) rfl ?_
  refine s3_62 rfl ?_
  refine s3_64 ?_
  refine s3_41 ?_
  refine s3_43 (fun _ => ?_) (fun h => absurd h (by decide))
  refine s3_67 ?_
  exact s3_68 ⟨rfl, rfl⟩
theorem own_r197 {m : Nat} : M4 ⟨0, 1, 4, 0⟩ [.ref 6, .int 1, .int 2, .int 2, .int 1, .int 1, .int 0, .int 1] [(.inl (0, [.ref 1, .ref 2, .ref 3, .ref 4, .ref 5]) : ACell), (.inr (.int, own_a 1 2) : ACell), (.inr (.int, own_a 1 2) : ACell), (.inr (.int, own_b m 0 1 2 0) : ACell), (.inr (.int, own_b m 0 0 0 0) : ACell), (.inr (.int, own_b m 0 0 0 0) : ACell), (.inr (.int, [.int 1]) : ACell)] (Is (some (.int 1)) [(.inl (0, [.ref 1, .ref 2, .ref 3, .ref 4, .ref 5]) : ACell), (.inr (.int, own_a 1 2) : ACell), (.inr (.int, own_a 1 2) : ACell), (.inr (.int, own_b m 0 1 2 0) : ACell), (.inr (.int, own_b m 0 0 0 0) : ACell), (.inr (.int, own_b m 0 0 0 0) : ACell), (.inr (.int, [.int 1]) : ACell), (.inr (.int, [.int 1, .int 0, .int 0, .int 0]) : ACell)]) := by
  refine e4 ?_
  refine s4_0 ?_
  refine s4_1 7 4 (by decide) rfl rfl ?_
  refine s4_3 rfl ?_
  refine s4_5 ?_
  refine s4_6 rfl ?_
  refine s4_8 ?_
  refine s4_9 ?_
  refine s4_10 (fun h => absurd h (by decide)) (fun _ => ?_)
  refine s4_13 ?_
  refine s4_15 (fun _ => ?_) (fun h => absurd h (by decide))
  refine s4_27 ?_
  refine s4_28 ?_
  refine s4_29 (fun _ => ?_) (fun h => absurd h (by decide))
  refine s4_46 ?_
  refine s4_47 ?_
  refine s4_48 (fun _ => ?_) (fun h => absurd h (by decide))
  refine s4_65 ?_
  refine s4_67 (fun h => absurd h (by decide)) (fun _ => ?_)
  refine s4_70 ?_
  refine s4_71 ?_
  refine s4_72 (fun h => absurd h (by decide)) (fun _ => ?_)
  refine s4_75 ?_
  refine s4_77 ?_
  refine s4_79 ?_
  refine s4_80 0 rfl (by decide) rfl ?_
  refine s4_81 ?_
  refine s4_84 ?_
  refine s4_85k 1 rfl rfl ?_
  refine s4_86 ?_
  refine s4_88 (fun h => absurd h (by decide)) (fun _ => ?_)
  refine s4_91 ?_
  refine s4_93 ?_
  refine s4_94 (fun h => absurd h (by decide)) (fun _ => ?_)
  refine s4_97 ?_
  refine s4_98 ?_
  refine s4_99 0 rfl (by decide) rfl ?_
  refine s4_100 ?_
  refine s4_102 ?_
  refine s4_103 0 rfl (by decide) rfl ?_
  refine s4_104 (fun h => absurd h (by decide)) (fun _ => ?_)
  refine s4_107 ?_
  refine s4_109 ?_
  refine s4_110 (fun _ => ?_) (fun h => absurd h (by decide))
  refine s4_123 ?_
  refine s4_125 ?_
  refine s4_126 (fun _ => ?_) (fun h => absurd h (by decide))
  refine s4_139 ?_
  refine s4_141 ?_
  refine s4_142 (fun _ => ?_) (fun h => absurd h (by decide))
  refine s4_155 ?_
  refine s4_156 ?_
  exact s4_160 ⟨rfl, rfl⟩
theorem own_r198 {m : Nat} : M3 ⟨0, 1, 1, 0⟩ [.ref 0, .int 2] [(.inl (0, [.ref 1, .ref 2, .ref 3, .ref 4, .ref 5]) : ACell), (.inr (.int, own_a 1 2) : ACell), (.inr (.int, own_a 1 2) : ACell), (.inr (.int, own_b m 0 1 2 0) : ACell), (.inr (.int, own_b m 0 0 0 0) : ACell), (.inr (.int, own_b m 0 0 0 0) : ACell), (.inr (.int, [.int 1]) : ACell), (.inr (.int, [.int 1, .int 0, .int 0, .int 0]) : ACell)] (Is (some (.ref 8)) [(.inl (0, [.ref 1, .ref 2, .ref 3, .ref 4, .ref 5]) : ACell), (.inr (.int, own_a 1 2) : ACell), (.inr (.int, own_a 1 2) : ACell), (.inr (.int, own_b m 0 1 2 0) : ACell), (.inr (.int, own_b m 0 0 0 0) : ACell), (.inr (.int, own_b m 0 0 0 0) : ACell), (.inr (.int, [.int 1]) : ACell), (.inr (.int, [.int 1, .int 0, .int 0, .int 0]) : ACell), (.inr (.int, [.int 2]) : ACell)]) := by
  refine e3 ?_
  refine s3_0 ?_
  refine s3_1 rfl ?_
  refine s3_2 ?_
  refine s3_3 rfl ?_
  refine s3_6 ?_
  refine s3_7 2 rfl (by decide) rfl ?_
  refine s3_8 rfl ?_
  refine s3_9 ?_
  refine s3_10 (fun h => absurd h (by decide)) (fun _ => ?_)
  refine s3_13 ?_
  refine s3_16 ?_
  refine s3_17 rfl ?_
  refine s3_20 ?_
  refine s3_21 2 rfl (by decide) rfl ?_
  refine s3_22 rfl ?_
  refine s3_23 ?_
  refine s3_9 ?_
  refine s3_10 (fun _ => ?_) (fun h => absurd h (by decide))
  refine s3_26 ?_
  refine s3_27 8 1 (by decide) rfl rfl ?_
  refine s3_29 rfl ?_
  refine s3_30 ?_
  refine s3_31 rfl ?_
  refine s3_33 ?_
  refine s3_34 rfl ?_
  refine s3_37 ?_
  refine s3_38 2 rfl (by decide) rfl ?_
  refine s3_39 rfl ?_
  refine s3_41 ?_
  refine s3_43 (fun h => absurd h (by decide)) (fun _ => ?_)
  refine s3_46 ?_
  refine s3_47 ?_
  refine s3_49 ?_
  refine s3_51 0 rfl (by decide) rfl ?_
  refine s3_52 ?_
  refine s3_55 ?_
  refine s3_56 rfl ?_
  refine s3_59 ?_
  refine s3_61 2 rfl (by decide) rfl ?_
  refine s3_62 rfl ?_
  refine s3_64 ?_
  refine s3_41 ?_
  refine s3_43 (fun _ => ?_) (fun h => absurd h (by decide))
  refine s3_67 ?_
  exact s3_68 ⟨rfl, rfl⟩
theorem own_r199 {m : Nat} : M4 ⟨0, 1, 4, 0⟩ [.ref 8, .int 2, .int 2, .int 2, .int 1, .int 1, .int 0, .int 1] [(.inl (0, [.ref 1, .ref 2, .ref 3, .ref 4, .ref 5]) : ACell), (.inr (.int, own_a 1 2) : ACell), (.inr (.int, own_a 1 2) : ACell), (.inr (.int, own_b m 0 1 2 0) : ACell), (.inr (.int, own_b m 0 0 0 0) : ACell), (.inr (.int, own_b m 0 0 0 0) : ACell), (.inr (.int, [.int 1]) : ACell), (.inr (.int, [.int 1, .int 0, .int 0, .int 0]) : ACell), (.inr (.int, [.int 2]) : ACell)] (Is (some (.int 1)) [(.inl (0, [.ref 1, .ref 2, .ref 3, .ref 4, .ref 5]) : ACell), (.inr (.int, own_a 1 2) : ACell), (.inr (.int, own_a 1 2) : ACell), (.inr (.int, own_b m 0 1 2 0) : ACell), (.inr (.int, own_b m 0 0 0 0) : ACell), (.inr (.int, own_b m 0 0 0 0) : ACell), (.inr (.int, [.int 1]) : ACell), (.inr (.int, [.int 1, .int 0, .int 0, .int 0]) : ACell), (.inr (.int, [.int 2]) : ACell), (.inr (.int, [.int 2, .int 0, .int 0, .int 0]) : ACell)]) := by
  refine e4 ?_
  refine s4_0 ?_
  refine s4_1 9 4 (by decide) rfl rfl ?_
  refine s4_3 rfl ?_
  refine s4_5 ?_
  refine s4_6 rfl ?_
  refine s4_8 ?_
  refine s4_9 ?_
  refine s4_10 (fun _ => ?_) (fun h => absurd h (by decide))
  refine s4_27 ?_
  refine s4_28 ?_
  refine s4_29 (fun h => absurd h (by decide)) (fun _ => ?_)
  refine s4_32 ?_
  refine s4_34 (fun _ => ?_) (fun h => absurd h (by decide))
  refine s4_46 ?_
  refine s4_47 ?_
  refine s4_48 (fun h => absurd h (by decide)) (fun _ => ?_)
  refine s4_51 ?_
  refine s4_53 (fun h => absurd h (by decide)) (fun _ => ?_)
  refine s4_56 ?_
  refine s4_58 ?_
  refine s4_60 ?_
  refine s4_61 0 rfl (by decide) rfl ?_
  refine s4_62 ?_
  refine s4_65 ?_
  refine s4_67 (fun h => absurd h (by decide)) (fun _ => ?_)
  refine s4_70 ?_
  refine s4_71 ?_
  refine s4_72 (fun _ => ?_) (fun h => absurd h (by decide))
  refine s4_84 ?_
  refine s4_85k 1 rfl rfl ?_
  refine s4_86 ?_
  refine s4_88 (fun h => absurd h (by decide)) (fun _ => ?_)
  refine s4_91 ?_
  refine s4_93 ?_
  refine s4_94 (fun h => absurd h (by decide)) (fun _ => ?_)
  refine s4_97 ?_
  refine s4_98 ?_
  refine s4_99 0 rfl (by decide) rfl ?_
  refine s4_100 ?_
  refine s4_102 ?_
  refine s4_103 0 rfl (by decide) rfl ?_
  refine s4_104 (fun h => absurd h (by decide)) (fun _ => ?_)
  refine s4_107 ?_
  refine s4_109 ?_
  refine s4_110 (fun _ => ?_) (fun h => absurd h (by decide))
  refine s4_123 ?_
  refine s4_125 ?_
  refine s4_126 (fun _ => ?_) (fun h => absurd h (by decide))
  refine s4_139 ?_
  refine s4_141 ?_
  refine s4_142 (fun _ => ?_) (fun h => absurd h (by decide))
  refine s4_155 ?_
  refine s4_156 ?_
  exact s4_160 ⟨rfl, rfl⟩
theorem own_r200 {m : Nat} : M2 ⟨0, 0, 0, 0⟩ [.ref 0, .int 1, .int 1] [(.inl (0, [.ref 1, .ref 2, .ref 3, .ref 4, .ref 5]) : ACell), (.inr (.int, own_a 0 0) : ACell), (.inr (.int, own_a 0 0) : ACell), (.inr (.int, own_b m 0 0 0 0) : ACell), (.inr (.int, own_b m 0 0 1 0) : ACell), (.inr (.int, own_b m 0 0 0 0) : ACell)] (Is none [(.inl (0, [.ref 1, .ref 2, .ref 3, .ref 4, .ref 5]) : ACell), (.inr (.int, own_a 1 0) : ACell), (.inr (.int, own_a 1 0) : ACell), (.inr (.int, own_b m 0 1 0 0) : ACell), (.inr (.int, own_b m 0 0 1 0) : ACell), (.inr (.int, own_b m 0 0 0 0) : ACell)]) := by
  refine e2 ?_
  refine s2_0 ?_
  refine s2_1 ?_
  refine s2_2 rfl ?_
  refine s2_5k 16 rfl rfl ?_
  refine s2_6 (fun _ => ?_) (fun h => absurd h (by decide))
  refine s2_45 ?_
  refine s2_46 rfl ?_
  refine s2_49 ?_
  refine s2_50 ?_
  refine s2_51 1 rfl (by decide) rfl ?_
  refine s2_52 ?_
  refine s2_53 rfl ?_
  refine s2_56 ?_
  refine s2_57 ?_
  refine s2_58 rfl ?_
  refine s2_61 ?_
  refine s2_62 1 rfl (by decide) rfl ?_
  refine s2_63 1 rfl (by decide) rfl ?_
  refine s2_64 ?_
  refine s2_65 rfl ?_
  refine s2_68 ?_
  refine s2_69 ?_
  refine s2_70 1 rfl (by decide) rfl ?_
  refine s2_71 ?_
  refine s2_72 rfl ?_
  refine s2_75 ?_
  refine s2_76 1 rfl (by decide) rfl ?_
  refine s2_77 (fun h => absurd h (by decide)) (fun _ => ?_)
  refine s2_80 ?_
  refine s2_81 rfl ?_
  refine s2_84 ?_
  refine s2_85 ?_
  refine s2_86 1 rfl (by decide) rfl ?_
  refine s2_87 ?_
  refine s2_102 ?_
  refine s2_103 rfl ?_
  refine s2_106 ?_
  refine s2_107 ?_
  refine s2_108 1 rfl (by decide) rfl ?_
  exact s2_109 ⟨rfl, rfl⟩
theorem own_r201 {m : Nat} : M3 ⟨0, 1, 1, 0⟩ [.ref 0, .int 1] [(.inl (0, [.ref 1, .ref 2, .ref 3, .ref 4, .ref 5]) : ACell), (.inr (.int, own_a 1 0) : ACell), (.inr (.int, own_a 1 0) : ACell), (.inr (.int, own_b m 0 1 0 0) : ACell), (.inr (.int, own_b m 0 0 1 0) : ACell), (.inr (.int, own_b m 0 0 0 0) : ACell)] (Is (some (.ref 6)) [(.inl (0, [.ref 1, .ref 2, .ref 3, .ref 4, .ref 5]) : ACell), (.inr (.int, own_a 1 0) : ACell), (.inr (.int, own_a 1 0) : ACell), (.inr (.int, own_b m 0 1 0 0) : ACell), (.inr (.int, own_b m 0 0 1 0) : ACell), (.inr (.int, own_b m 0 0 0 0) : ACell), (.inr (.int, [.int 1]) : ACell)]) := by
  refine e3 ?_
  refine s3_0 ?_
  refine s3_1 rfl ?_
  refine s3_2 ?_
  refine s3_3 rfl ?_
  refine s3_6 ?_
  refine s3_7 1 rfl (by decide) rfl ?_
  refine s3_8 rfl ?_
  refine s3_9 ?_
  refine s3_10 (fun h => absurd h (by decide)) (fun _ => ?_)
  refine s3_13 ?_
  refine s3_16 ?_
  refine s3_17 rfl ?_
  refine s3_20 ?_
  refine s3_21 1 rfl (by decide) rfl ?_
  refine s3_22 rfl ?_
  refine s3_23 ?_
  refine s3_9 ?_
  refine s3_10 (fun _ => ?_) (fun h => absurd h (by decide))
  refine s3_26 ?_
  refine s3_27 6 1 (by decide) rfl rfl ?_
  refine s3_29 rfl ?_
  refine s3_30 ?_
  refine s3_31 rfl ?_
  refine s3_33 ?_
  refine s3_34 rfl ?_
  refine s3_37 ?_
  refine s3_38 1 rfl (by decide) rfl ?_
  refine s3_39 rfl ?_
  refine s3_41 ?_
  refine s3_43 (fun h => absurd h (by decide)) (fun _ => ?_)
  refine s3_46 ?_
  refine s3_47 ?_
  refine s3_49 ?_
  refine s3_51 0 rfl (by decide) rfl ?_
  refine s3_52 ?_
  refine s3_55 ?_
  refine s3_56 rfl ?_
  refine s3_59 ?_
  refine s3_61 1 rfl (by decide) rfl ?_
  refine s3_62 rfl ?_
  refine s3_64 ?_
  refine s3_41 ?_
  refine s3_43 (fun _ => ?_) (fun h => absurd h (by decide))
  refine s3_67 ?_
  exact s3_68 ⟨rfl, rfl⟩
theorem own_r202 {m : Nat} : M4 ⟨0, 1, 4, 0⟩ [.ref 6, .int 1, .int 2, .int 2, .int 1, .int 1, .int 1, .int 1] [(.inl (0, [.ref 1, .ref 2, .ref 3, .ref 4, .ref 5]) : ACell), (.inr (.int, own_a 1 0) : ACell), (.inr (.int, own_a 1 0) : ACell), (.inr (.int, own_b m 0 1 0 0) : ACell), (.inr (.int, own_b m 0 0 1 0) : ACell), (.inr (.int, own_b m 0 0 0 0) : ACell), (.inr (.int, [.int 1]) : ACell)] (Is (some (.int 1)) [(.inl (0, [.ref 1, .ref 2, .ref 3, .ref 4, .ref 5]) : ACell), (.inr (.int, own_a 1 0) : ACell), (.inr (.int, own_a 1 0) : ACell), (.inr (.int, own_b m 0 1 0 0) : ACell), (.inr (.int, own_b m 0 0 1 0) : ACell), (.inr (.int, own_b m 0 0 0 0) : ACell), (.inr (.int, [.int 1]) : ACell), (.inr (.int, [.int 1, .int 0, .int 0, .int 0]) : ACell)]) := by
  refine e4 ?_
  refine s4_0 ?_
  refine s4_1 7 4 (by decide) rfl rfl ?_
  refine s4_3 rfl ?_
  refine s4_5 ?_
  refine s4_6 rfl ?_
  refine s4_8 ?_
  refine s4_9 ?_
  refine s4_10 (fun h => absurd h (by decide)) (fun _ => ?_)
  refine s4_13 ?_
  refine s4_15 (fun _ => ?_) (fun h => absurd h (by decide))
  refine s4_27 ?_
  refine s4_28 ?_
  refine s4_29 (fun _ => ?_) (fun h => absurd h (by decide))
  refine s4_46 ?_
  refine s4_47 ?_
  refine s4_48 (fun _ => ?_) (fun h => absurd h (by decide))
  refine s4_65 ?_
  refine s4_67 (fun h => absurd h (by decide)) (fun _ => ?_)
  refine s4_70 ?_
  refine s4_71 ?_
  refine s4_72 (fun h => absurd h (by decide)) (fun _ => ?_)
  refine s4_75 ?_
  refine s4_77 ?_
  refine s4_79 ?_
  refine s4_80 0 rfl (by decide) rfl ?_
  refine s4_81 ?_
  refine s4_84 ?_
  refine s4_85k 1 rfl rfl ?_
  refine s4_86 ?_
  refine s4_88 (fun h => absurd h (by decide)) (fun _ => ?_)
  refine s4_91 ?_
  refine s4_93 ?_
  refine s4_94 (fun h => absurd h (by decide)) (fun _ => ?_)
  refine s4_97 ?_
  refine s4_98 ?_
  refine s4_99 0 rfl (by decide) rfl ?_
  refine s4_100 ?_
  refine s4_102 ?_
  refine s4_103 0 rfl (by decide) rfl ?_
  refine s4_104 (fun h => absurd h (by decide)) (fun _ => ?_)
  refine s4_107 ?_
  refine s4_109 ?_
  refine s4_110 (fun _ => ?_) (fun h => absurd h (by decide))
  refine s4_123 ?_
  refine s4_125 ?_
  refine s4_126 (fun _ => ?_) (fun h => absurd h (by decide))
  refine s4_139 ?_
  refine s4_141 ?_
  refine s4_142 (fun _ => ?_) (fun h => absurd h (by decide))
  refine s4_155 ?_
  refine s4_156 ?_
  exact s4_160 ⟨rfl, rfl⟩
theorem own_r203 {m : Nat} : M3 ⟨0, 1, 0, 0⟩ [.ref 0, .int 2] [(.inl (0, [.ref 1, .ref 2, .ref 3, .ref 4, .ref 5]) : ACell), (.inr (.int, own_a 1 0) : ACell), (.inr (.int, own_a 1 0) : ACell), (.inr (.int, own_b m 0 1 0 0) : ACell), (.inr (.int, own_b m 0 0 1 0) : ACell), (.inr (.int, own_b m 0 0 0 0) : ACell), (.inr (.int, [.int 1]) : ACell), (.inr (.int, [.int 1, .int 0, .int 0, .int 0]) : ACell)] (Is (some (.ref 8)) [(.inl (0, [.ref 1, .ref 2, .ref 3, .ref 4, .ref 5]) : ACell), (.inr (.int, own_a 1 0) : ACell), (.inr (.int, own_a 1 0) : ACell), (.inr (.int, own_b m 0 1 0 0) : ACell), (.inr (.int, own_b m 0 0 1 0) : ACell), (.inr (.int, own_b m 0 0 0 0) : ACell), (.inr (.int, [.int 1]) : ACell), (.inr (.int, [.int 1, .int 0, .int 0, .int 0]) : ACell), (.inr (.int, []) : ACell)]) := by
  refine e3 ?_
  refine s3_0 ?_
  refine s3_1 rfl ?_
  refine s3_2 ?_
  refine s3_3 rfl ?_
  refine s3_6 ?_
  refine s3_7 2 rfl (by decide) rfl ?_
  refine s3_8 rfl ?_
  refine s3_9 ?_
  refine s3_10 (fun _ => ?_) (fun h => absurd h (by decide))
  refine s3_26 ?_
  refine s3_27 8 0 (by decide) rfl rfl ?_
  refine s3_29 rfl ?_
  refine s3_30 ?_
  refine s3_31 rfl ?_
  refine s3_33 ?_
  refine s3_34 rfl ?_
  refine s3_37 ?_
  refine s3_38 2 rfl (by decide) rfl ?_
  refine s3_39 rfl ?_
  refine s3_41 ?_
  refine s3_43 (fun _ => ?_) (fun h => absurd h (by decide))
  refine s3_67 ?_
  exact s3_68 ⟨rfl, rfl⟩
theorem own_r204 {m : Nat} : M4 ⟨0, 1, 4, 0⟩ [.ref 8, .int 2, .int 2, .int 2, .int 1, .int 1, .int 1, .int 1] [(.inl (0, [.ref 1, .ref 2, .ref 3, .ref 4, .ref 5]) : ACell), (.inr (.int, own_a 1 0) : ACell), (.inr (.int, own_a 1 0) : ACell), (.inr (.int, own_b m 0 1 0 0) : ACell), (.inr (.int, own_b m 0 0 1 0) : ACell), (.inr (.int, own_b m 0 0 0 0) : ACell), (.inr (.int, [.int 1]) : ACell), (.inr (.int, [.int 1, .int 0, .int 0, .int 0]) : ACell), (.inr (.int, []) : ACell)] (Is (some (.int 1)) [(.inl (0, [.ref 1, .ref 2, .ref 3, .ref 4, .ref 5]) : ACell), (.inr (.int, own_a 1 0) : ACell), (.inr (.int, own_a 1 0) : ACell), (.inr (.int, own_b m 0 1 0 0) : ACell), (.inr (.int, own_b m 0 0 1 0) : ACell), (.inr (.int, own_b m 0 0 0 0) : ACell), (.inr (.int, [.int 1]) : ACell), (.inr (.int, [.int 1, .int 0, .int 0, .int 0]) : ACell), (.inr (.int, []) : ACell), (.inr (.int, [.int 0, .int 0, .int 0, .int 0]) : ACell)]) := by
  refine e4 ?_
  refine s4_0 ?_
  refine s4_1 9 4 (by decide) rfl rfl ?_
  refine s4_3 rfl ?_
  refine s4_5 ?_
  refine s4_6 rfl ?_
  refine s4_8 ?_
  refine s4_9 ?_
  refine s4_10 (fun _ => ?_) (fun h => absurd h (by decide))
  refine s4_27 ?_
  refine s4_28 ?_
  refine s4_29 (fun h => absurd h (by decide)) (fun _ => ?_)
  refine s4_32 ?_
  refine s4_34 (fun _ => ?_) (fun h => absurd h (by decide))
  refine s4_46 ?_
  refine s4_47 ?_
  refine s4_48 (fun h => absurd h (by decide)) (fun _ => ?_)
  refine s4_51 ?_
  refine s4_53 (fun _ => ?_) (fun h => absurd h (by decide))
  refine s4_65 ?_
  refine s4_67 (fun h => absurd h (by decide)) (fun _ => ?_)
  refine s4_70 ?_
  refine s4_71 ?_
  refine s4_72 (fun _ => ?_) (fun h => absurd h (by decide))
  refine s4_84 ?_
  refine s4_85k 0 rfl rfl ?_
  refine s4_86 ?_
  refine s4_88 (fun h => absurd h (by decide)) (fun _ => ?_)
  refine s4_91 ?_
  refine s4_93 ?_
  refine s4_94 (fun _ => ?_) (fun h => absurd h (by decide))
  refine s4_107 ?_
  refine s4_109 ?_
  refine s4_110 (fun _ => ?_) (fun h => absurd h (by decide))
  refine s4_123 ?_
  refine s4_125 ?_
  refine s4_126 (fun _ => ?_) (fun h => absurd h (by decide))
  refine s4_139 ?_
  refine s4_141 ?_
  refine s4_142 (fun _ => ?_) (fun h => absurd h (by decide))
  refine s4_155 ?_
  refine s4_156 ?_
  exact s4_160 ⟨rfl, rfl⟩
set_option maxHeartbeats 4000000 in
theorem own_c110000 (s t : Int32) {m : Nat} : W0 ⟨5, 26, 226, 128⟩ 94 [.val (.int s), .val (.int t), .val (.int 1), .val (.int 1), .val (.int 0), .val (.int 0), .val (.int 0), .val (.int 0), .val (.ref 0), .unset, .unset] [] [(.inl (0, [.ref 1, .ref 2, .ref 3, .ref 4, .ref 5]) : ACell), (.inr (.int, own_a 0 0) : ACell), (.inr (.int, own_a 0 0) : ACell), (.inr (.int, own_b m 0 0 0 0) : ACell), (.inr (.int, own_b m 0 0 0 0) : ACell), (.inr (.int, own_b m 0 0 0 0) : ACell)] (fun r _ => r = some (.int 1)) := by
  refine s0_94 ?_
  refine s0_96 ?_
  refine s0_97 ?_
  refine s0_98 rfl (own_r0) rfl ?_
  refine s0_101 ?_
  refine s0_103 ?_
  refine s0_104 ?_
  refine s0_105 rfl (own_r1) rfl ?_
  refine s0_108 ?_
  refine s0_110 ?_
  refine s0_111 ?_
  refine s0_112 rfl (own_r2) rfl ?_
  refine s0_115 ?_
  refine s0_117 (fun _ => ?_) (fun h => absurd h (by decide))
  refine s0_126 ?_
  refine s0_128 (fun _ => ?_) (fun h => absurd h (by decide))
  refine s0_137 ?_
  refine s0_139 (fun _ => ?_) (fun h => absurd h (by decide))
  refine s0_148 ?_
  refine s0_150 (fun _ => ?_) (fun h => absurd h (by decide))
  refine s0_160 ?_
  refine s0_162 ?_
  refine s0_163 rfl (own_r3) rfl ?_
  refine s0_166 ?_
  refine s0_167 ?_
  refine s0_168 ?_
  refine s0_169 ?_
  refine s0_171 ?_
  refine s0_173 ?_
  refine s0_175 ?_
  refine s0_177 (own_r4) rfl ?_
  refine s0_180 rfl ?_
  refine s0_182 ?_
  refine s0_183 ?_
  refine s0_184 (fun h => absurd h (by decide)) (fun _ => ?_)
  refine s0_187 ?_
  refine s0_188 ?_
  refine s0_189 (fun _ => ?_) (fun h => absurd h (by decide))
  refine s0_196 ?_
  refine s0_197 rfl ?_
  refine s0_199 ?_
  refine s0_201 (fun _ => ?_) (fun h => absurd h (by decide))
  refine s0_239 ?_
  exact s0_241 rfl
set_option maxHeartbeats 4000000 in
theorem own_c110010 (s t : Int32) {m : Nat} : W0 ⟨5, 26, 226, 128⟩ 94 [.val (.int s), .val (.int t), .val (.int 1), .val (.int 1), .val (.int 0), .val (.int 0), .val (.int 1), .val (.int 0), .val (.ref 0), .unset, .unset] [] [(.inl (0, [.ref 1, .ref 2, .ref 3, .ref 4, .ref 5]) : ACell), (.inr (.int, own_a 0 0) : ACell), (.inr (.int, own_a 0 0) : ACell), (.inr (.int, own_b m 0 0 0 0) : ACell), (.inr (.int, own_b m 0 0 0 0) : ACell), (.inr (.int, own_b m 0 0 0 0) : ACell)] (fun r _ => r = some (.int 1)) := by
  refine s0_94 ?_
  refine s0_96 ?_
  refine s0_97 ?_
  refine s0_98 rfl (own_r0) rfl ?_
  refine s0_101 ?_
  refine s0_103 ?_
  refine s0_104 ?_
  refine s0_105 rfl (own_r1) rfl ?_
  refine s0_108 ?_
  refine s0_110 ?_
  refine s0_111 ?_
  refine s0_112 rfl (own_r2) rfl ?_
  refine s0_115 ?_
  refine s0_117 (fun h => absurd h (by decide)) (fun _ => ?_)
  refine s0_120 ?_
  refine s0_122 ?_
  refine s0_123 rfl (own_r5) rfl ?_
  refine s0_126 ?_
  refine s0_128 (fun _ => ?_) (fun h => absurd h (by decide))
  refine s0_137 ?_
  refine s0_139 (fun _ => ?_) (fun h => absurd h (by decide))
  refine s0_148 ?_
  refine s0_150 (fun _ => ?_) (fun h => absurd h (by decide))
  refine s0_160 ?_
  refine s0_162 ?_
  refine s0_163 rfl (own_r6) rfl ?_
  refine s0_166 ?_
  refine s0_167 ?_
  refine s0_168 ?_
  refine s0_169 ?_
  refine s0_171 ?_
  refine s0_173 ?_
  refine s0_175 ?_
  refine s0_177 (own_r7) rfl ?_
  refine s0_180 rfl ?_
  refine s0_182 ?_
  refine s0_183 ?_
  refine s0_184 (fun h => absurd h (by decide)) (fun _ => ?_)
  refine s0_187 ?_
  refine s0_188 ?_
  refine s0_189 (fun _ => ?_) (fun h => absurd h (by decide))
  refine s0_196 ?_
  refine s0_197 rfl ?_
  refine s0_199 ?_
  refine s0_201 (fun _ => ?_) (fun h => absurd h (by decide))
  refine s0_239 ?_
  exact s0_241 rfl
set_option maxHeartbeats 4000000 in
theorem own_c110100 (s t : Int32) {m : Nat} : W0 ⟨5, 26, 226, 128⟩ 94 [.val (.int s), .val (.int t), .val (.int 1), .val (.int 1), .val (.int 0), .val (.int 1), .val (.int 0), .val (.int 0), .val (.ref 0), .unset, .unset] [] [(.inl (0, [.ref 1, .ref 2, .ref 3, .ref 4, .ref 5]) : ACell), (.inr (.int, own_a 0 0) : ACell), (.inr (.int, own_a 0 0) : ACell), (.inr (.int, own_b m 0 0 0 0) : ACell), (.inr (.int, own_b m 0 0 0 0) : ACell), (.inr (.int, own_b m 0 0 0 0) : ACell)] (fun r _ => r = some (.int 1)) := by
  refine s0_94 ?_
  refine s0_96 ?_
  refine s0_97 ?_
  refine s0_98 rfl (own_r0) rfl ?_
  refine s0_101 ?_
  refine s0_103 ?_
  refine s0_104 ?_
  refine s0_105 rfl (own_r1) rfl ?_
  refine s0_108 ?_
  refine s0_110 ?_
  refine s0_111 ?_
  refine s0_112 rfl (own_r2) rfl ?_
  refine s0_115 ?_
  refine s0_117 (fun _ => ?_) (fun h => absurd h (by decide))
  refine s0_126 ?_
  refine s0_128 (fun _ => ?_) (fun h => absurd h (by decide))
  refine s0_137 ?_
  refine s0_139 (fun h => absurd h (by decide)) (fun _ => ?_)
  refine s0_142 ?_
  refine s0_144 ?_
  refine s0_145 rfl (own_r8) rfl ?_
  refine s0_148 ?_
  refine s0_150 (fun _ => ?_) (fun h => absurd h (by decide))
  refine s0_160 ?_
  refine s0_162 ?_
  refine s0_163 rfl (own_r9) rfl ?_
  refine s0_166 ?_
  refine s0_167 ?_
  refine s0_168 ?_
  refine s0_169 ?_
  refine s0_171 ?_
  refine s0_173 ?_
  refine s0_175 ?_
  refine s0_177 (own_r10) rfl ?_
  refine s0_180 rfl ?_
  refine s0_182 ?_
  refine s0_183 ?_
  refine s0_184 (fun h => absurd h (by decide)) (fun _ => ?_)
  refine s0_187 ?_
  refine s0_188 ?_
  refine s0_189 (fun _ => ?_) (fun h => absurd h (by decide))
  refine s0_196 ?_
  refine s0_197 rfl ?_
  refine s0_199 ?_
  refine s0_201 (fun _ => ?_) (fun h => absurd h (by decide))
  refine s0_239 ?_
  exact s0_241 rfl
set_option maxHeartbeats 4000000 in
theorem own_c110110 (s t : Int32) {m : Nat} : W0 ⟨5, 26, 226, 128⟩ 94 [.val (.int s), .val (.int t), .val (.int 1), .val (.int 1), .val (.int 0), .val (.int 1), .val (.int 1), .val (.int 0), .val (.ref 0), .unset, .unset] [] [(.inl (0, [.ref 1, .ref 2, .ref 3, .ref 4, .ref 5]) : ACell), (.inr (.int, own_a 0 0) : ACell), (.inr (.int, own_a 0 0) : ACell), (.inr (.int, own_b m 0 0 0 0) : ACell), (.inr (.int, own_b m 0 0 0 0) : ACell), (.inr (.int, own_b m 0 0 0 0) : ACell)] (fun r _ => r = some (.int 1)) := by
  refine s0_94 ?_
  refine s0_96 ?_
  refine s0_97 ?_
  refine s0_98 rfl (own_r0) rfl ?_
  refine s0_101 ?_
  refine s0_103 ?_
  refine s0_104 ?_
  refine s0_105 rfl (own_r1) rfl ?_
  refine s0_108 ?_
  refine s0_110 ?_
  refine s0_111 ?_
  refine s0_112 rfl (own_r2) rfl ?_
  refine s0_115 ?_
  refine s0_117 (fun h => absurd h (by decide)) (fun _ => ?_)
  refine s0_120 ?_
  refine s0_122 ?_
  refine s0_123 rfl (own_r5) rfl ?_
  refine s0_126 ?_
  refine s0_128 (fun _ => ?_) (fun h => absurd h (by decide))
  refine s0_137 ?_
  refine s0_139 (fun h => absurd h (by decide)) (fun _ => ?_)
  refine s0_142 ?_
  refine s0_144 ?_
  refine s0_145 rfl (own_r11) rfl ?_
  refine s0_148 ?_
  refine s0_150 (fun _ => ?_) (fun h => absurd h (by decide))
  refine s0_160 ?_
  refine s0_162 ?_
  refine s0_163 rfl (own_r12) rfl ?_
  refine s0_166 ?_
  refine s0_167 ?_
  refine s0_168 ?_
  refine s0_169 ?_
  refine s0_171 ?_
  refine s0_173 ?_
  refine s0_175 ?_
  refine s0_177 (own_r13) rfl ?_
  refine s0_180 rfl ?_
  refine s0_182 ?_
  refine s0_183 ?_
  refine s0_184 (fun h => absurd h (by decide)) (fun _ => ?_)
  refine s0_187 ?_
  refine s0_188 ?_
  refine s0_189 (fun _ => ?_) (fun h => absurd h (by decide))
  refine s0_196 ?_
  refine s0_197 rfl ?_
  refine s0_199 ?_
  refine s0_201 (fun _ => ?_) (fun h => absurd h (by decide))
  refine s0_239 ?_
  exact s0_241 rfl
set_option maxHeartbeats 4000000 in
theorem own_c110101 (s t : Int32) {m : Nat} : W0 ⟨5, 26, 226, 128⟩ 94 [.val (.int s), .val (.int t), .val (.int 1), .val (.int 1), .val (.int 0), .val (.int 1), .val (.int 0), .val (.int 1), .val (.ref 0), .unset, .unset] [] [(.inl (0, [.ref 1, .ref 2, .ref 3, .ref 4, .ref 5]) : ACell), (.inr (.int, own_a 0 0) : ACell), (.inr (.int, own_a 0 0) : ACell), (.inr (.int, own_b m 0 0 0 0) : ACell), (.inr (.int, own_b m 0 0 0 0) : ACell), (.inr (.int, own_b m 0 0 0 0) : ACell)] (fun r _ => r = some (.int 1)) := by
  refine s0_94 ?_
  refine s0_96 ?_
  refine s0_97 ?_
  refine s0_98 rfl (own_r0) rfl ?_
  refine s0_101 ?_
  refine s0_103 ?_
  refine s0_104 ?_
  refine s0_105 rfl (own_r1) rfl ?_
  refine s0_108 ?_
  refine s0_110 ?_
  refine s0_111 ?_
  refine s0_112 rfl (own_r2) rfl ?_
  refine s0_115 ?_
  refine s0_117 (fun _ => ?_) (fun h => absurd h (by decide))
  refine s0_126 ?_
  refine s0_128 (fun _ => ?_) (fun h => absurd h (by decide))
  refine s0_137 ?_
  refine s0_139 (fun h => absurd h (by decide)) (fun _ => ?_)
  refine s0_142 ?_
  refine s0_144 ?_
  refine s0_145 rfl (own_r8) rfl ?_
  refine s0_148 ?_
  refine s0_150 (fun h => absurd h (by decide)) (fun _ => ?_)
  refine s0_153 ?_
  refine s0_155 ?_
  refine s0_156 ?_
  refine s0_157 rfl (own_r14) rfl ?_
  refine s0_160 ?_
  refine s0_162 ?_
  refine s0_163 rfl (own_r15) rfl ?_
  refine s0_166 ?_
  refine s0_167 ?_
  refine s0_168 ?_
  refine s0_169 ?_
  refine s0_171 ?_
  refine s0_173 ?_
  refine s0_175 ?_
  refine s0_177 (own_r16) rfl ?_
  refine s0_180 rfl ?_
  refine s0_182 ?_
  refine s0_183 ?_
  refine s0_184 (fun h => absurd h (by decide)) (fun _ => ?_)
  refine s0_187 ?_
  refine s0_188 ?_
  refine s0_189 (fun _ => ?_) (fun h => absurd h (by decide))
  refine s0_196 ?_
  refine s0_197 rfl ?_
  refine s0_199 ?_
  refine s0_201 (fun _ => ?_) (fun h => absurd h (by decide))
  refine s0_239 ?_
  exact s0_241 rfl
set_option maxHeartbeats 4000000 in
theorem own_c110111 (s t : Int32) {m : Nat} : W0 ⟨5, 26, 226, 128⟩ 94 [.val (.int s), .val (.int t), .val (.int 1), .val (.int 1), .val (.int 0), .val (.int 1), .val (.int 1), .val (.int 1), .val (.ref 0), .unset, .unset] [] [(.inl (0, [.ref 1, .ref 2, .ref 3, .ref 4, .ref 5]) : ACell), (.inr (.int, own_a 0 0) : ACell), (.inr (.int, own_a 0 0) : ACell), (.inr (.int, own_b m 0 0 0 0) : ACell), (.inr (.int, own_b m 0 0 0 0) : ACell), (.inr (.int, own_b m 0 0 0 0) : ACell)] (fun r _ => r = some (.int 1)) := by
  refine s0_94 ?_
  refine s0_96 ?_
  refine s0_97 ?_
  refine s0_98 rfl (own_r0) rfl ?_
  refine s0_101 ?_
  refine s0_103 ?_
  refine s0_104 ?_
  refine s0_105 rfl (own_r1) rfl ?_
  refine s0_108 ?_
  refine s0_110 ?_
  refine s0_111 ?_
  refine s0_112 rfl (own_r2) rfl ?_
  refine s0_115 ?_
  refine s0_117 (fun h => absurd h (by decide)) (fun _ => ?_)
  refine s0_120 ?_
  refine s0_122 ?_
  refine s0_123 rfl (own_r5) rfl ?_
  refine s0_126 ?_
  refine s0_128 (fun _ => ?_) (fun h => absurd h (by decide))
  refine s0_137 ?_
  refine s0_139 (fun h => absurd h (by decide)) (fun _ => ?_)
  refine s0_142 ?_
  refine s0_144 ?_
  refine s0_145 rfl (own_r11) rfl ?_
  refine s0_148 ?_
  refine s0_150 (fun h => absurd h (by decide)) (fun _ => ?_)
  refine s0_153 ?_
  refine s0_155 ?_
  refine s0_156 ?_
  refine s0_157 rfl (own_r17) rfl ?_
  refine s0_160 ?_
  refine s0_162 ?_
  refine s0_163 rfl (own_r6) rfl ?_
  refine s0_166 ?_
  refine s0_167 ?_
  refine s0_168 ?_
  refine s0_169 ?_
  refine s0_171 ?_
  refine s0_173 ?_
  refine s0_175 ?_
  refine s0_177 (own_r18) rfl ?_
  refine s0_180 rfl ?_
  refine s0_182 ?_
  refine s0_183 ?_
  refine s0_184 (fun h => absurd h (by decide)) (fun _ => ?_)
  refine s0_187 ?_
  refine s0_188 ?_
  refine s0_189 (fun _ => ?_) (fun h => absurd h (by decide))
  refine s0_196 ?_
  refine s0_197 rfl ?_
  refine s0_199 ?_
  refine s0_201 (fun _ => ?_) (fun h => absurd h (by decide))
  refine s0_239 ?_
  exact s0_241 rfl
set_option maxHeartbeats 4000000 in
theorem own_c111000 (s t : Int32) {m : Nat} : W0 ⟨5, 26, 226, 128⟩ 94 [.val (.int s), .val (.int t), .val (.int 1), .val (.int 1), .val (.int 1), .val (.int 0), .val (.int 0), .val (.int 0), .val (.ref 0), .unset, .unset] [] [(.inl (0, [.ref 1, .ref 2, .ref 3, .ref 4, .ref 5]) : ACell), (.inr (.int, own_a 0 0) : ACell), (.inr (.int, own_a 0 0) : ACell), (.inr (.int, own_b m 0 0 0 0) : ACell), (.inr (.int, own_b m 0 0 0 0) : ACell), (.inr (.int, own_b m 0 0 0 0) : ACell)] (fun r _ => r = some (.int 1)) := by
  refine s0_94 ?_
  refine s0_96 ?_
  refine s0_97 ?_
  refine s0_98 rfl (own_r0) rfl ?_
  refine s0_101 ?_
  refine s0_103 ?_
  refine s0_104 ?_
  refine s0_105 rfl (own_r1) rfl ?_
  refine s0_108 ?_
  refine s0_110 ?_
  refine s0_111 ?_
  refine s0_112 rfl (own_r2) rfl ?_
  refine s0_115 ?_
  refine s0_117 (fun _ => ?_) (fun h => absurd h (by decide))
  refine s0_126 ?_
  refine s0_128 (fun h => absurd h (by decide)) (fun _ => ?_)
  refine s0_131 ?_
  refine s0_133 ?_
  refine s0_134 rfl (own_r19) rfl ?_
  refine s0_137 ?_
  refine s0_139 (fun _ => ?_) (fun h => absurd h (by decide))
  refine s0_148 ?_
  refine s0_150 (fun _ => ?_) (fun h => absurd h (by decide))
  refine s0_160 ?_
  refine s0_162 ?_
  refine s0_163 rfl (own_r20) rfl ?_
  refine s0_166 ?_
  refine s0_167 ?_
  refine s0_168 ?_
  refine s0_169 ?_
  refine s0_171 ?_
  refine s0_173 ?_
  refine s0_175 ?_
  refine s0_177 (own_r21) rfl ?_
  refine s0_180 rfl ?_
  refine s0_182 ?_
  refine s0_183 ?_
  refine s0_184 (fun h => absurd h (by decide)) (fun _ => ?_)
  refine s0_187 ?_
  refine s0_188 ?_
  refine s0_189 (fun _ => ?_) (fun h => absurd h (by decide))
  refine s0_196 ?_
  refine s0_197 rfl ?_
  refine s0_199 ?_
  refine s0_201 (fun _ => ?_) (fun h => absurd h (by decide))
  refine s0_239 ?_
  exact s0_241 rfl
set_option maxHeartbeats 4000000 in
theorem own_c111010 (s t : Int32) {m : Nat} : W0 ⟨5, 26, 226, 128⟩ 94 [.val (.int s), .val (.int t), .val (.int 1), .val (.int 1), .val (.int 1), .val (.int 0), .val (.int 1), .val (.int 0), .val (.ref 0), .unset, .unset] [] [(.inl (0, [.ref 1, .ref 2, .ref 3, .ref 4, .ref 5]) : ACell), (.inr (.int, own_a 0 0) : ACell), (.inr (.int, own_a 0 0) : ACell), (.inr (.int, own_b m 0 0 0 0) : ACell), (.inr (.int, own_b m 0 0 0 0) : ACell), (.inr (.int, own_b m 0 0 0 0) : ACell)] (fun r _ => r = some (.int 1)) := by
  refine s0_94 ?_
  refine s0_96 ?_
  refine s0_97 ?_
  refine s0_98 rfl (own_r0) rfl ?_
  refine s0_101 ?_
  refine s0_103 ?_
  refine s0_104 ?_
  refine s0_105 rfl (own_r1) rfl ?_
  refine s0_108 ?_
  refine s0_110 ?_
  refine s0_111 ?_
  refine s0_112 rfl (own_r2) rfl ?_
  refine s0_115 ?_
  refine s0_117 (fun h => absurd h (by decide)) (fun _ => ?_)
  refine s0_120 ?_
  refine s0_122 ?_
  refine s0_123 rfl (own_r5) rfl ?_
  refine s0_126 ?_
  refine s0_128 (fun h => absurd h (by decide)) (fun _ => ?_)
  refine s0_131 ?_
  refine s0_133 ?_
  refine s0_134 rfl (own_r22) rfl ?_
  refine s0_137 ?_
  refine s0_139 (fun _ => ?_) (fun h => absurd h (by decide))
  refine s0_148 ?_
  refine s0_150 (fun _ => ?_) (fun h => absurd h (by decide))
  refine s0_160 ?_
  refine s0_162 ?_
  refine s0_163 rfl (own_r23) rfl ?_
  refine s0_166 ?_
  refine s0_167 ?_
  refine s0_168 ?_
  refine s0_169 ?_
  refine s0_171 ?_
  refine s0_173 ?_
  refine s0_175 ?_
  refine s0_177 (own_r24) rfl ?_
  refine s0_180 rfl ?_
  refine s0_182 ?_
  refine s0_183 ?_
  refine s0_184 (fun h => absurd h (by decide)) (fun _ => ?_)
  refine s0_187 ?_
  refine s0_188 ?_
  refine s0_189 (fun _ => ?_) (fun h => absurd h (by decide))
  refine s0_196 ?_
  refine s0_197 rfl ?_
  refine s0_199 ?_
  refine s0_201 (fun _ => ?_) (fun h => absurd h (by decide))
  refine s0_239 ?_
  exact s0_241 rfl
set_option maxHeartbeats 4000000 in
theorem own_c111100 (s t : Int32) {m : Nat} : W0 ⟨5, 26, 226, 128⟩ 94 [.val (.int s), .val (.int t), .val (.int 1), .val (.int 1), .val (.int 1), .val (.int 1), .val (.int 0), .val (.int 0), .val (.ref 0), .unset, .unset] [] [(.inl (0, [.ref 1, .ref 2, .ref 3, .ref 4, .ref 5]) : ACell), (.inr (.int, own_a 0 0) : ACell), (.inr (.int, own_a 0 0) : ACell), (.inr (.int, own_b m 0 0 0 0) : ACell), (.inr (.int, own_b m 0 0 0 0) : ACell), (.inr (.int, own_b m 0 0 0 0) : ACell)] (fun r _ => r = some (.int 1)) := by
  refine s0_94 ?_
  refine s0_96 ?_
  refine s0_97 ?_
  refine s0_98 rfl (own_r0) rfl ?_
  refine s0_101 ?_
  refine s0_103 ?_
  refine s0_104 ?_
  refine s0_105 rfl (own_r1) rfl ?_
  refine s0_108 ?_
  refine s0_110 ?_
  refine s0_111 ?_
  refine s0_112 rfl (own_r2) rfl ?_
  refine s0_115 ?_
  refine s0_117 (fun _ => ?_) (fun h => absurd h (by decide))
  refine s0_126 ?_
  refine s0_128 (fun h => absurd h (by decide)) (fun _ => ?_)
  refine s0_131 ?_
  refine s0_133 ?_
  refine s0_134 rfl (own_r19) rfl ?_
  refine s0_137 ?_
  refine s0_139 (fun h => absurd h (by decide)) (fun _ => ?_)
  refine s0_142 ?_
  refine s0_144 ?_
  refine s0_145 rfl (own_r25) rfl ?_
  refine s0_148 ?_
  refine s0_150 (fun _ => ?_) (fun h => absurd h (by decide))
  refine s0_160 ?_
  refine s0_162 ?_
  refine s0_163 rfl (own_r26) rfl ?_
  refine s0_166 ?_
  refine s0_167 ?_
  refine s0_168 ?_
  refine s0_169 ?_
  refine s0_171 ?_
  refine s0_173 ?_
  refine s0_175 ?_
  refine s0_177 (own_r27) rfl ?_
  refine s0_180 rfl ?_
  refine s0_182 ?_
  refine s0_183 ?_
  refine s0_184 (fun h => absurd h (by decide)) (fun _ => ?_)
  refine s0_187 ?_
  refine s0_188 ?_
  refine s0_189 (fun _ => ?_) (fun h => absurd h (by decide))
  refine s0_196 ?_
  refine s0_197 rfl ?_
  refine s0_199 ?_
  refine s0_201 (fun _ => ?_) (fun h => absurd h (by decide))
  refine s0_239 ?_
  exact s0_241 rfl
set_option maxHeartbeats 4000000 in
theorem own_c111110 (s t : Int32) {m : Nat} : W0 ⟨5, 26, 226, 128⟩ 94 [.val (.int s), .val (.int t), .val (.int 1), .val (.int 1), .val (.int 1), .val (.int 1), .val (.int 1), .val (.int 0), .val (.ref 0), .unset, .unset] [] [(.inl (0, [.ref 1, .ref 2, .ref 3, .ref 4, .ref 5]) : ACell), (.inr (.int, own_a 0 0) : ACell), (.inr (.int, own_a 0 0) : ACell), (.inr (.int, own_b m 0 0 0 0) : ACell), (.inr (.int, own_b m 0 0 0 0) : ACell), (.inr (.int, own_b m 0 0 0 0) : ACell)] (fun r _ => r = some (.int 1)) := by
  refine s0_94 ?_
  refine s0_96 ?_
  refine s0_97 ?_
  refine s0_98 rfl (own_r0) rfl ?_
  refine s0_101 ?_
  refine s0_103 ?_
  refine s0_104 ?_
  refine s0_105 rfl (own_r1) rfl ?_
  refine s0_108 ?_
  refine s0_110 ?_
  refine s0_111 ?_
  refine s0_112 rfl (own_r2) rfl ?_
  refine s0_115 ?_
  refine s0_117 (fun h => absurd h (by decide)) (fun _ => ?_)
  refine s0_120 ?_
  refine s0_122 ?_
  refine s0_123 rfl (own_r5) rfl ?_
  refine s0_126 ?_
  refine s0_128 (fun h => absurd h (by decide)) (fun _ => ?_)
  refine s0_131 ?_
  refine s0_133 ?_
  refine s0_134 rfl (own_r22) rfl ?_
  refine s0_137 ?_
  refine s0_139 (fun h => absurd h (by decide)) (fun _ => ?_)
  refine s0_142 ?_
  refine s0_144 ?_
  refine s0_145 rfl (own_r28) rfl ?_
  refine s0_148 ?_
  refine s0_150 (fun _ => ?_) (fun h => absurd h (by decide))
  refine s0_160 ?_
  refine s0_162 ?_
  refine s0_163 rfl (own_r29) rfl ?_
  refine s0_166 ?_
  refine s0_167 ?_
  refine s0_168 ?_
  refine s0_169 ?_
  refine s0_171 ?_
  refine s0_173 ?_
  refine s0_175 ?_
  refine s0_177 (own_r30) rfl ?_
  refine s0_180 rfl ?_
  refine s0_182 ?_
  refine s0_183 ?_
  refine s0_184 (fun h => absurd h (by decide)) (fun _ => ?_)
  refine s0_187 ?_
  refine s0_188 ?_
  refine s0_189 (fun _ => ?_) (fun h => absurd h (by decide))
  refine s0_196 ?_
  refine s0_197 rfl ?_
  refine s0_199 ?_
  refine s0_201 (fun _ => ?_) (fun h => absurd h (by decide))
  refine s0_239 ?_
  exact s0_241 rfl
set_option maxHeartbeats 4000000 in
theorem own_c111101 (s t : Int32) {m : Nat} : W0 ⟨5, 26, 226, 128⟩ 94 [.val (.int s), .val (.int t), .val (.int 1), .val (.int 1), .val (.int 1), .val (.int 1), .val (.int 0), .val (.int 1), .val (.ref 0), .unset, .unset] [] [(.inl (0, [.ref 1, .ref 2, .ref 3, .ref 4, .ref 5]) : ACell), (.inr (.int, own_a 0 0) : ACell), (.inr (.int, own_a 0 0) : ACell), (.inr (.int, own_b m 0 0 0 0) : ACell), (.inr (.int, own_b m 0 0 0 0) : ACell), (.inr (.int, own_b m 0 0 0 0) : ACell)] (fun r _ => r = some (.int 1)) := by
  refine s0_94 ?_
  refine s0_96 ?_
  refine s0_97 ?_
  refine s0_98 rfl (own_r0) rfl ?_
  refine s0_101 ?_
  refine s0_103 ?_
  refine s0_104 ?_
  refine s0_105 rfl (own_r1) rfl ?_
  refine s0_108 ?_
  refine s0_110 ?_
  refine s0_111 ?_
  refine s0_112 rfl (own_r2) rfl ?_
  refine s0_115 ?_
  refine s0_117 (fun _ => ?_) (fun h => absurd h (by decide))
  refine s0_126 ?_
  refine s0_128 (fun h => absurd h (by decide)) (fun _ => ?_)
  refine s0_131 ?_
  refine s0_133 ?_
  refine s0_134 rfl (own_r19) rfl ?_
  refine s0_137 ?_
  refine s0_139 (fun h => absurd h (by decide)) (fun _ => ?_)
  refine s0_142 ?_
  refine s0_144 ?_
  refine s0_145 rfl (own_r25) rfl ?_
  refine s0_148 ?_
  refine s0_150 (fun h => absurd h (by decide)) (fun _ => ?_)
  refine s0_153 ?_
  refine s0_155 ?_
  refine s0_156 ?_
  refine s0_157 rfl (own_r31) rfl ?_
  refine s0_160 ?_
  refine s0_162 ?_
  refine s0_163 rfl (own_r32) rfl ?_
  refine s0_166 ?_
  refine s0_167 ?_
  refine s0_168 ?_
  refine s0_169 ?_
  refine s0_171 ?_
  refine s0_173 ?_
  refine s0_175 ?_
  refine s0_177 (own_r33) rfl ?_
  refine s0_180 rfl ?_
  refine s0_182 ?_
  refine s0_183 ?_
  refine s0_184 (fun h => absurd h (by decide)) (fun _ => ?_)
  refine s0_187 ?_
  refine s0_188 ?_
  refine s0_189 (fun _ => ?_) (fun h => absurd h (by decide))
  refine s0_196 ?_
  refine s0_197 rfl ?_
  refine s0_199 ?_
  refine s0_201 (fun _ => ?_) (fun h => absurd h (by decide))
  refine s0_239 ?_
  exact s0_241 rfl
set_option maxHeartbeats 4000000 in
theorem own_c111111 (s t : Int32) {m : Nat} : W0 ⟨5, 26, 226, 128⟩ 94 [.val (.int s), .val (.int t), .val (.int 1), .val (.int 1), .val (.int 1), .val (.int 1), .val (.int 1), .val (.int 1), .val (.ref 0), .unset, .unset] [] [(.inl (0, [.ref 1, .ref 2, .ref 3, .ref 4, .ref 5]) : ACell), (.inr (.int, own_a 0 0) : ACell), (.inr (.int, own_a 0 0) : ACell), (.inr (.int, own_b m 0 0 0 0) : ACell), (.inr (.int, own_b m 0 0 0 0) : ACell), (.inr (.int, own_b m 0 0 0 0) : ACell)] (fun r _ => r = some (.int 1)) := by
  refine s0_94 ?_
  refine s0_96 ?_
  refine s0_97 ?_
  refine s0_98 rfl (own_r0) rfl ?_
  refine s0_101 ?_
  refine s0_103 ?_
  refine s0_104 ?_
  refine s0_105 rfl (own_r1) rfl ?_
  refine s0_108 ?_
  refine s0_110 ?_
  refine s0_111 ?_
  refine s0_112 rfl (own_r2) rfl ?_
  refine s0_115 ?_
  refine s0_117 (fun h => absurd h (by decide)) (fun _ => ?_)
  refine s0_120 ?_
  refine s0_122 ?_
  refine s0_123 rfl (own_r5) rfl ?_
  refine s0_126 ?_
  refine s0_128 (fun h => absurd h (by decide)) (fun _ => ?_)
  refine s0_131 ?_
  refine s0_133 ?_
  refine s0_134 rfl (own_r22) rfl ?_
  refine s0_137 ?_
  refine s0_139 (fun h => absurd h (by decide)) (fun _ => ?_)
  refine s0_142 ?_
  refine s0_144 ?_
  refine s0_145 rfl (own_r28) rfl ?_
  refine s0_148 ?_
  refine s0_150 (fun h => absurd h (by decide)) (fun _ => ?_)
  refine s0_153 ?_
  refine s0_155 ?_
  refine s0_156 ?_
  refine s0_157 rfl (own_r34) rfl ?_
  refine s0_160 ?_
  refine s0_162 ?_
  refine s0_163 rfl (own_r23) rfl ?_
  refine s0_166 ?_
  refine s0_167 ?_
  refine s0_168 ?_
  refine s0_169 ?_
  refine s0_171 ?_
  refine s0_173 ?_
  refine s0_175 ?_
  refine s0_177 (own_r35) rfl ?_
  refine s0_180 rfl ?_
  refine s0_182 ?_
  refine s0_183 ?_
  refine s0_184 (fun h => absurd h (by decide)) (fun _ => ?_)
  refine s0_187 ?_
  refine s0_188 ?_
  refine s0_189 (fun _ => ?_) (fun h => absurd h (by decide))
  refine s0_196 ?_
  refine s0_197 rfl ?_
  refine s0_199 ?_
  refine s0_201 (fun _ => ?_) (fun h => absurd h (by decide))
  refine s0_239 ?_
  exact s0_241 rfl
set_option maxHeartbeats 4000000 in
theorem own_c120000 (s t : Int32) {m : Nat} : W0 ⟨5, 26, 226, 128⟩ 94 [.val (.int s), .val (.int t), .val (.int 1), .val (.int 2), .val (.int 0), .val (.int 0), .val (.int 0), .val (.int 0), .val (.ref 0), .unset, .unset] [] [(.inl (0, [.ref 1, .ref 2, .ref 3, .ref 4, .ref 5]) : ACell), (.inr (.int, own_a 0 0) : ACell), (.inr (.int, own_a 0 0) : ACell), (.inr (.int, own_b m 0 0 0 0) : ACell), (.inr (.int, own_b m 0 0 0 0) : ACell), (.inr (.int, own_b m 0 0 0 0) : ACell)] (fun r _ => r = some (.int 1)) := by
  refine s0_94 ?_
  refine s0_96 ?_
  refine s0_97 ?_
  refine s0_98 rfl (own_r0) rfl ?_
  refine s0_101 ?_
  refine s0_103 ?_
  refine s0_104 ?_
  refine s0_105 rfl (own_r1) rfl ?_
  refine s0_108 ?_
  refine s0_110 ?_
  refine s0_111 ?_
  refine s0_112 rfl (own_r36) rfl ?_
  refine s0_115 ?_
  refine s0_117 (fun _ => ?_) (fun h => absurd h (by decide))
  refine s0_126 ?_
  refine s0_128 (fun _ => ?_) (fun h => absurd h (by decide))
  refine s0_137 ?_
  refine s0_139 (fun _ => ?_) (fun h => absurd h (by decide))
  refine s0_148 ?_
  refine s0_150 (fun _ => ?_) (fun h => absurd h (by decide))
  refine s0_160 ?_
  refine s0_162 ?_
  refine s0_163 rfl (own_r37) rfl ?_
  refine s0_166 ?_
  refine s0_167 ?_
  refine s0_168 ?_
  refine s0_169 ?_
  refine s0_171 ?_
  refine s0_173 ?_
  refine s0_175 ?_
  refine s0_177 (own_r38) rfl ?_
  refine s0_180 rfl ?_
  refine s0_182 ?_
  refine s0_183 ?_
  refine s0_184 (fun h => absurd h (by decide)) (fun _ => ?_)
  refine s0_187 ?_
  refine s0_188 ?_
  refine s0_189 (fun h => absurd h (by decide)) (fun _ => ?_)
  refine s0_192 ?_
  refine s0_193 ?_
  refine s0_197 rfl ?_
  refine s0_199 ?_
  refine s0_201 (fun h => absurd h (by decide)) (fun _ => ?_)
  refine s0_204 ?_
  refine s0_206 (fun h => absurd h (by decide)) (fun _ => ?_)
  refine s0_209 ?_
  refine s0_211 ?_
  refine s0_212 rfl (own_r39) rfl ?_
  refine s0_215 ?_
  refine s0_216 ?_
  refine s0_217 ?_
  refine s0_218 ?_
  refine s0_220 ?_
  refine s0_222 ?_
  refine s0_224 ?_
  refine s0_226 (own_r40) rfl ?_
  refine s0_229 (fun h => absurd h (by decide)) (fun _ => ?_)
  refine s0_232 ?_
  refine s0_233 ?_
  refine s0_237 rfl ?_
  refine s0_239 ?_
  exact s0_241 rfl
set_option maxHeartbeats 4000000 in
theorem own_c120010 (s t : Int32) {m : Nat} : W0 ⟨5, 26, 226, 128⟩ 94 [.val (.int s), .val (.int t), .val (.int 1), .val (.int 2), .val (.int 0), .val (.int 0), .val (.int 1), .val (.int 0), .val (.ref 0), .unset, .unset] [] [(.inl (0, [.ref 1, .ref 2, .ref 3, .ref 4, .ref 5]) : ACell), (.inr (.int, own_a 0 0) : ACell), (.inr (.int, own_a 0 0) : ACell), (.inr (.int, own_b m 0 0 0 0) : ACell), (.inr (.int, own_b m 0 0 0 0) : ACell), (.inr (.int, own_b m 0 0 0 0) : ACell)] (fun r _ => r = some (.int 1)) := by
  refine s0_94 ?_
  refine s0_96 ?_
  refine s0_97 ?_
  refine s0_98 rfl (own_r0) rfl ?_
  refine s0_101 ?_
  refine s0_103 ?_
  refine s0_104 ?_
  refine s0_105 rfl (own_r1) rfl ?_
  refine s0_108 ?_
  refine s0_110 ?_
  refine s0_111 ?_
  refine s0_112 rfl (own_r36) rfl ?_
  refine s0_115 ?_
  refine s0_117 (fun h => absurd h (by decide)) (fun _ => ?_)
  refine s0_120 ?_
  refine s0_122 ?_
  refine s0_123 rfl (own_r41) rfl ?_
  refine s0_126 ?_
  refine s0_128 (fun _ => ?_) (fun h => absurd h (by decide))
  refine s0_137 ?_
  refine s0_139 (fun _ => ?_) (fun h => absurd h (by decide))
  refine s0_148 ?_
  refine s0_150 (fun _ => ?_) (fun h => absurd h (by decide))
  refine s0_160 ?_
  refine s0_162 ?_
  refine s0_163 rfl (own_r42) rfl ?_
  refine s0_166 ?_
  refine s0_167 ?_
  refine s0_168 ?_
  refine s0_169 ?_
  refine s0_171 ?_
  refine s0_173 ?_
  refine s0_175 ?_
  refine s0_177 (own_r43) rfl ?_
  refine s0_180 rfl ?_
  refine s0_182 ?_
  refine s0_183 ?_
  refine s0_184 (fun h => absurd h (by decide)) (fun _ => ?_)
  refine s0_187 ?_
  refine s0_188 ?_
  refine s0_189 (fun h => absurd h (by decide)) (fun _ => ?_)
  refine s0_192 ?_
  refine s0_193 ?_
  refine s0_197 rfl ?_
  refine s0_199 ?_
  refine s0_201 (fun h => absurd h (by decide)) (fun _ => ?_)
  refine s0_204 ?_
  refine s0_206 (fun h => absurd h (by decide)) (fun _ => ?_)
  refine s0_209 ?_
  refine s0_211 ?_
  refine s0_212 rfl (own_r44) rfl ?_
  refine s0_215 ?_
  refine s0_216 ?_
  refine s0_217 ?_
  refine s0_218 ?_
  refine s0_220 ?_
  refine s0_222 ?_
  refine s0_224 ?_
  refine s0_226 (own_r45) rfl ?_
  refine s0_229 (fun h => absurd h (by decide)) (fun _ => ?_)
  refine s0_232 ?_
  refine s0_233 ?_
  refine s0_237 rfl ?_
  refine s0_239 ?_
  exact s0_241 rfl
set_option maxHeartbeats 4000000 in
theorem own_c120100 (s t : Int32) {m : Nat} : W0 ⟨5, 26, 226, 128⟩ 94 [.val (.int s), .val (.int t), .val (.int 1), .val (.int 2), .val (.int 0), .val (.int 1), .val (.int 0), .val (.int 0), .val (.ref 0), .unset, .unset] [] [(.inl (0, [.ref 1, .ref 2, .ref 3, .ref 4, .ref 5]) : ACell), (.inr (.int, own_a 0 0) : ACell), (.inr (.int, own_a 0 0) : ACell), (.inr (.int, own_b m 0 0 0 0) : ACell), (.inr (.int, own_b m 0 0 0 0) : ACell), (.inr (.int, own_b m 0 0 0 0) : ACell)] (fun r _ => r = some (.int 1)) := by
  refine s0_94 ?_
  refine s0_96 ?_
  refine s0_97 ?_
  refine s0_98 rfl (own_r0) rfl ?_
  refine s0_101 ?_
  refine s0_103 ?_
  refine s0_104 ?_
  refine s0_105 rfl (own_r1) rfl ?_
  refine s0_108 ?_
  refine s0_110 ?_
  refine s0_111 ?_
  refine s0_112 rfl (own_r36) rfl ?_
  refine s0_115 ?_
  refine s0_117 (fun _ => ?_) (fun h => absurd h (by decide))
  refine s0_126 ?_
  refine s0_128 (fun _ => ?_) (fun h => absurd h (by decide))
  refine s0_137 ?_
  refine s0_139 (fun h => absurd h (by decide)) (fun _ => ?_)
  refine s0_142 ?_
  refine s0_144 ?_
  refine s0_145 rfl (own_r46) rfl ?_
  refine s0_148 ?_
  refine s0_150 (fun _ => ?_) (fun h => absurd h (by decide))
  refine s0_160 ?_
  refine s0_162 ?_
  refine s0_163 rfl (own_r47) rfl ?_
  refine s0_166 ?_
  refine s0_167 ?_
  refine s0_168 ?_
  refine s0_169 ?_
  refine s0_171 ?_
  refine s0_173 ?_
  refine s0_175 ?_
  refine s0_177 (own_r48) rfl ?_
  refine s0_180 rfl ?_
  refine s0_182 ?_
  refine s0_183 ?_
  refine s0_184 (fun h => absurd h (by decide)) (fun _ => ?_)
  refine s0_187 ?_
  refine s0_188 ?_
  refine s0_189 (fun h => absurd h (by decide)) (fun _ => ?_)
  refine s0_192 ?_
  refine s0_193 ?_
  refine s0_197 rfl ?_
  refine s0_199 ?_
  refine s0_201 (fun h => absurd h (by decide)) (fun _ => ?_)
  refine s0_204 ?_
  refine s0_206 (fun h => absurd h (by decide)) (fun _ => ?_)
  refine s0_209 ?_
  refine s0_211 ?_
  refine s0_212 rfl (own_r49) rfl ?_
  refine s0_215 ?_
  refine s0_216 ?_
  refine s0_217 ?_
  refine s0_218 ?_
  refine s0_220 ?_
  refine s0_222 ?_
  refine s0_224 ?_
  refine s0_226 (own_r50) rfl ?_
  refine s0_229 (fun h => absurd h (by decide)) (fun _ => ?_)
  refine s0_232 ?_
  refine s0_233 ?_
  refine s0_237 rfl ?_
  refine s0_239 ?_
  exact s0_241 rfl
set_option maxHeartbeats 4000000 in
theorem own_c120110 (s t : Int32) {m : Nat} : W0 ⟨5, 26, 226, 128⟩ 94 [.val (.int s), .val (.int t), .val (.int 1), .val (.int 2), .val (.int 0), .val (.int 1), .val (.int 1), .val (.int 0), .val (.ref 0), .unset, .unset] [] [(.inl (0, [.ref 1, .ref 2, .ref 3, .ref 4, .ref 5]) : ACell), (.inr (.int, own_a 0 0) : ACell), (.inr (.int, own_a 0 0) : ACell), (.inr (.int, own_b m 0 0 0 0) : ACell), (.inr (.int, own_b m 0 0 0 0) : ACell), (.inr (.int, own_b m 0 0 0 0) : ACell)] (fun r _ => r = some (.int 1)) := by
  refine s0_94 ?_
  refine s0_96 ?_
  refine s0_97 ?_
  refine s0_98 rfl (own_r0) rfl ?_
  refine s0_101 ?_
  refine s0_103 ?_
  refine s0_104 ?_
  refine s0_105 rfl (own_r1) rfl ?_
  refine s0_108 ?_
  refine s0_110 ?_
  refine s0_111 ?_
  refine s0_112 rfl (own_r36) rfl ?_
  refine s0_115 ?_
  refine s0_117 (fun h => absurd h (by decide)) (fun _ => ?_)
  refine s0_120 ?_
  refine s0_122 ?_
  refine s0_123 rfl (own_r41) rfl ?_
  refine s0_126 ?_
  refine s0_128 (fun _ => ?_) (fun h => absurd h (by decide))
  refine s0_137 ?_
  refine s0_139 (fun h => absurd h (by decide)) (fun _ => ?_)
  refine s0_142 ?_
  refine s0_144 ?_
  refine s0_145 rfl (own_r51) rfl ?_
  refine s0_148 ?_
  refine s0_150 (fun _ => ?_) (fun h => absurd h (by decide))
  refine s0_160 ?_
  refine s0_162 ?_
  refine s0_163 rfl (own_r52) rfl ?_
  refine s0_166 ?_
  refine s0_167 ?_
  refine s0_168 ?_
  refine s0_169 ?_
  refine s0_171 ?_
  refine s0_173 ?_
  refine s0_175 ?_
  refine s0_177 (own_r53) rfl ?_
  refine s0_180 rfl ?_
  refine s0_182 ?_
  refine s0_183 ?_
  refine s0_184 (fun h => absurd h (by decide)) (fun _ => ?_)
  refine s0_187 ?_
  refine s0_188 ?_
  refine s0_189 (fun h => absurd h (by decide)) (fun _ => ?_)
  refine s0_192 ?_
  refine s0_193 ?_
  refine s0_197 rfl ?_
  refine s0_199 ?_
  refine s0_201 (fun h => absurd h (by decide)) (fun _ => ?_)
  refine s0_204 ?_
  refine s0_206 (fun h => absurd h (by decide)) (fun _ => ?_)
  refine s0_209 ?_
  refine s0_211 ?_
  refine s0_212 rfl (own_r54) rfl ?_
  refine s0_215 ?_
  refine s0_216 ?_
  refine s0_217 ?_
  refine s0_218 ?_
  refine s0_220 ?_
  refine s0_222 ?_
  refine s0_224 ?_
  refine s0_226 (own_r55) rfl ?_
  refine s0_229 (fun h => absurd h (by decide)) (fun _ => ?_)
  refine s0_232 ?_
  refine s0_233 ?_
  refine s0_237 rfl ?_
  refine s0_239 ?_
  exact s0_241 rfl
set_option maxHeartbeats 4000000 in
theorem own_c120101 (s t : Int32) {m : Nat} : W0 ⟨5, 26, 226, 128⟩ 94 [.val (.int s), .val (.int t), .val (.int 1), .val (.int 2), .val (.int 0), .val (.int 1), .val (.int 0), .val (.int 1), .val (.ref 0), .unset, .unset] [] [(.inl (0, [.ref 1, .ref 2, .ref 3, .ref 4, .ref 5]) : ACell), (.inr (.int, own_a 0 0) : ACell), (.inr (.int, own_a 0 0) : ACell), (.inr (.int, own_b m 0 0 0 0) : ACell), (.inr (.int, own_b m 0 0 0 0) : ACell), (.inr (.int, own_b m 0 0 0 0) : ACell)] (fun r _ => r = some (.int 1)) := by
  refine s0_94 ?_
  refine s0_96 ?_
  refine s0_97 ?_
  refine s0_98 rfl (own_r0) rfl ?_
  refine s0_101 ?_
  refine s0_103 ?_
  refine s0_104 ?_
  refine s0_105 rfl (own_r1) rfl ?_
  refine s0_108 ?_
  refine s0_110 ?_
  refine s0_111 ?_
  refine s0_112 rfl (own_r36) rfl ?_
  refine s0_115 ?_
  refine s0_117 (fun _ => ?_) (fun h => absurd h (by decide))
  refine s0_126 ?_
  refine s0_128 (fun _ => ?_) (fun h => absurd h (by decide))
  refine s0_137 ?_
  refine s0_139 (fun h => absurd h (by decide)) (fun _ => ?_)
  refine s0_142 ?_
  refine s0_144 ?_
  refine s0_145 rfl (own_r46) rfl ?_
  refine s0_148 ?_
  refine s0_150 (fun h => absurd h (by decide)) (fun _ => ?_)
  refine s0_153 ?_
  refine s0_155 ?_
  refine s0_156 ?_
  refine s0_157 rfl (own_r56) rfl ?_
  refine s0_160 ?_
  refine s0_162 ?_
  refine s0_163 rfl (own_r37) rfl ?_
  refine s0_166 ?_
  refine s0_167 ?_
  refine s0_168 ?_
  refine s0_169 ?_
  refine s0_171 ?_
  refine s0_173 ?_
  refine s0_175 ?_
  refine s0_177 (own_r57) rfl ?_
  refine s0_180 rfl ?_
  refine s0_182 ?_
  refine s0_183 ?_
  refine s0_184 (fun h => absurd h (by decide)) (fun _ => ?_)
  refine s0_187 ?_
  refine s0_188 ?_
  refine s0_189 (fun h => absurd h (by decide)) (fun _ => ?_)
  refine s0_192 ?_
  refine s0_193 ?_
  refine s0_197 rfl ?_
  refine s0_199 ?_
  refine s0_201 (fun h => absurd h (by decide)) (fun _ => ?_)
  refine s0_204 ?_
  refine s0_206 (fun h => absurd h (by decide)) (fun _ => ?_)
  refine s0_209 ?_
  refine s0_211 ?_
  refine s0_212 rfl (own_r39) rfl ?_
  refine s0_215 ?_
  refine s0_216 ?_
  refine s0_217 ?_
  refine s0_218 ?_
  refine s0_220 ?_
  refine s0_222 ?_
  refine s0_224 ?_
  refine s0_226 (own_r58) rfl ?_
  refine s0_229 (fun h => absurd h (by decide)) (fun _ => ?_)
  refine s0_232 ?_
  refine s0_233 ?_
  refine s0_237 rfl ?_
  refine s0_239 ?_
  exact s0_241 rfl
set_option maxHeartbeats 4000000 in
theorem own_c120111 (s t : Int32) {m : Nat} : W0 ⟨5, 26, 226, 128⟩ 94 [.val (.int s), .val (.int t), .val (.int 1), .val (.int 2), .val (.int 0), .val (.int 1), .val (.int 1), .val (.int 1), .val (.ref 0), .unset, .unset] [] [(.inl (0, [.ref 1, .ref 2, .ref 3, .ref 4, .ref 5]) : ACell), (.inr (.int, own_a 0 0) : ACell), (.inr (.int, own_a 0 0) : ACell), (.inr (.int, own_b m 0 0 0 0) : ACell), (.inr (.int, own_b m 0 0 0 0) : ACell), (.inr (.int, own_b m 0 0 0 0) : ACell)] (fun r _ => r = some (.int 1)) := by
  refine s0_94 ?_
  refine s0_96 ?_
  refine s0_97 ?_
  refine s0_98 rfl (own_r0) rfl ?_
  refine s0_101 ?_
  refine s0_103 ?_
  refine s0_104 ?_
  refine s0_105 rfl (own_r1) rfl ?_
  refine s0_108 ?_
  refine s0_110 ?_
  refine s0_111 ?_
  refine s0_112 rfl (own_r36) rfl ?_
  refine s0_115 ?_
  refine s0_117 (fun h => absurd h (by decide)) (fun _ => ?_)
  refine s0_120 ?_
  refine s0_122 ?_
  refine s0_123 rfl (own_r41) rfl ?_
  refine s0_126 ?_
  refine s0_128 (fun _ => ?_) (fun h => absurd h (by decide))
  refine s0_137 ?_
  refine s0_139 (fun h => absurd h (by decide)) (fun _ => ?_)
  refine s0_142 ?_
  refine s0_144 ?_
  refine s0_145 rfl (own_r51) rfl ?_
  refine s0_148 ?_
  refine s0_150 (fun h => absurd h (by decide)) (fun _ => ?_)
  refine s0_153 ?_
  refine s0_155 ?_
  refine s0_156 ?_
  refine s0_157 rfl (own_r59) rfl ?_
  refine s0_160 ?_
  refine s0_162 ?_
  refine s0_163 rfl (own_r42) rfl ?_
  refine s0_166 ?_
  refine s0_167 ?_
  refine s0_168 ?_
  refine s0_169 ?_
  refine s0_171 ?_
  refine s0_173 ?_
  refine s0_175 ?_
  refine s0_177 (own_r60) rfl ?_
  refine s0_180 rfl ?_
  refine s0_182 ?_
  refine s0_183 ?_
  refine s0_184 (fun h => absurd h (by decide)) (fun _ => ?_)
  refine s0_187 ?_
  refine s0_188 ?_
  refine s0_189 (fun h => absurd h (by decide)) (fun _ => ?_)
  refine s0_192 ?_
  refine s0_193 ?_
  refine s0_197 rfl ?_
  refine s0_199 ?_
  refine s0_201 (fun h => absurd h (by decide)) (fun _ => ?_)
  refine s0_204 ?_
  refine s0_206 (fun h => absurd h (by decide)) (fun _ => ?_)
  refine s0_209 ?_
  refine s0_211 ?_
  refine s0_212 rfl (own_r44) rfl ?_
  refine s0_215 ?_
  refine s0_216 ?_
  refine s0_217 ?_
  refine s0_218 ?_
  refine s0_220 ?_
  refine s0_222 ?_
  refine s0_224 ?_
  refine s0_226 (own_r61) rfl ?_
  refine s0_229 (fun h => absurd h (by decide)) (fun _ => ?_)
  refine s0_232 ?_
  refine s0_233 ?_
  refine s0_237 rfl ?_
  refine s0_239 ?_
  exact s0_241 rfl
set_option maxHeartbeats 4000000 in
theorem own_c121000 (s t : Int32) {m : Nat} : W0 ⟨5, 26, 226, 128⟩ 94 [.val (.int s), .val (.int t), .val (.int 1), .val (.int 2), .val (.int 1), .val (.int 0), .val (.int 0), .val (.int 0), .val (.ref 0), .unset, .unset] [] [(.inl (0, [.ref 1, .ref 2, .ref 3, .ref 4, .ref 5]) : ACell), (.inr (.int, own_a 0 0) : ACell), (.inr (.int, own_a 0 0) : ACell), (.inr (.int, own_b m 0 0 0 0) : ACell), (.inr (.int, own_b m 0 0 0 0) : ACell), (.inr (.int, own_b m 0 0 0 0) : ACell)] (fun r _ => r = some (.int 1)) := by
  refine s0_94 ?_
  refine s0_96 ?_
  refine s0_97 ?_
  refine s0_98 rfl (own_r0) rfl ?_
  refine s0_101 ?_
  refine s0_103 ?_
  refine s0_104 ?_
  refine s0_105 rfl (own_r1) rfl ?_
  refine s0_108 ?_
  refine s0_110 ?_
  refine s0_111 ?_
  refine s0_112 rfl (own_r36) rfl ?_
  refine s0_115 ?_
  refine s0_117 (fun _ => ?_) (fun h => absurd h (by decide))
  refine s0_126 ?_
  refine s0_128 (fun h => absurd h (by decide)) (fun _ => ?_)
  refine s0_131 ?_
  refine s0_133 ?_
  refine s0_134 rfl (own_r62) rfl ?_
  refine s0_137 ?_
  refine s0_139 (fun _ => ?_) (fun h => absurd h (by decide))
  refine s0_148 ?_
  refine s0_150 (fun _ => ?_) (fun h => absurd h (by decide))
  refine s0_160 ?_
  refine s0_162 ?_
  refine s0_163 rfl (own_r63) rfl ?_
  refine s0_166 ?_
  refine s0_167 ?_
  refine s0_168 ?_
  refine s0_169 ?_
  refine s0_171 ?_
  refine s0_173 ?_
  refine s0_175 ?_
  refine s0_177 (own_r64) rfl ?_
  refine s0_180 rfl ?_
  refine s0_182 ?_
  refine s0_183 ?_
  refine s0_184 (fun h => absurd h (by decide)) (fun _ => ?_)
  refine s0_187 ?_
  refine s0_188 ?_
  refine s0_189 (fun h => absurd h (by decide)) (fun _ => ?_)
  refine s0_192 ?_
  refine s0_193 ?_
  refine s0_197 rfl ?_
  refine s0_199 ?_
  refine s0_201 (fun h => absurd h (by decide)) (fun _ => ?_)
  refine s0_204 ?_
  refine s0_206 (fun h => absurd h (by decide)) (fun _ => ?_)
  refine s0_209 ?_
  refine s0_211 ?_
  refine s0_212 rfl (own_r65) rfl ?_
  refine s0_215 ?_
  refine s0_216 ?_
  refine s0_217 ?_
  refine s0_218 ?_
  refine s0_220 ?_
  refine s0_222 ?_
  refine s0_224 ?_
  refine s0_226 (own_r66) rfl ?_
  refine s0_229 (fun h => absurd h (by decide)) (fun _ => ?_)
  refine s0_232 ?_
  refine s0_233 ?_
  refine s0_237 rfl ?_
  refine s0_239 ?_
  exact s0_241 rfl
set_option maxHeartbeats 4000000 in
theorem own_c121010 (s t : Int32) {m : Nat} : W0 ⟨5, 26, 226, 128⟩ 94 [.val (.int s), .val (.int t), .val (.int 1), .val (.int 2), .val (.int 1), .val (.int 0), .val (.int 1), .val (.int 0), .val (.ref 0), .unset, .unset] [] [(.inl (0, [.ref 1, .ref 2, .ref 3, .ref 4, .ref 5]) : ACell), (.inr (.int, own_a 0 0) : ACell), (.inr (.int, own_a 0 0) : ACell), (.inr (.int, own_b m 0 0 0 0) : ACell), (.inr (.int, own_b m 0 0 0 0) : ACell), (.inr (.int, own_b m 0 0 0 0) : ACell)] (fun r _ => r = some (.int 1)) := by
  refine s0_94 ?_
  refine s0_96 ?_
  refine s0_97 ?_
  refine s0_98 rfl (own_r0) rfl ?_
  refine s0_101 ?_
  refine s0_103 ?_
  refine s0_104 ?_
  refine s0_105 rfl (own_r1) rfl ?_
  refine s0_108 ?_
  refine s0_110 ?_
  refine s0_111 ?_
  refine s0_112 rfl (own_r36) rfl ?_
  refine s0_115 ?_
  refine s0_117 (fun h => absurd h (by decide)) (fun _ => ?_)
  refine s0_120 ?_
  refine s0_122 ?_
  refine s0_123 rfl (own_r41) rfl ?_
  refine s0_126 ?_
  refine s0_128 (fun h => absurd h (by decide)) (fun _ => ?_)
  refine s0_131 ?_
  refine s0_133 ?_
  refine s0_134 rfl (own_r67) rfl ?_
  refine s0_137 ?_
  refine s0_139 (fun _ => ?_) (fun h => absurd h (by decide))
  refine s0_148 ?_
  refine s0_150 (fun _ => ?_) (fun h => absurd h (by decide))
  refine s0_160 ?_
  refine s0_162 ?_
  refine s0_163 rfl (own_r68) rfl ?_
  refine s0_166 ?_
  refine s0_167 ?_
  refine s0_168 ?_
  refine s0_169 ?_
  refine s0_171 ?_
  refine s0_173 ?_
  refine s0_175 ?_
  refine s0_177 (own_r69) rfl ?_
  refine s0_180 rfl ?_
  refine s0_182 ?_
  refine s0_183 ?_
  refine s0_184 (fun h => absurd h (by decide)) (fun _ => ?_)
  refine s0_187 ?_
  refine s0_188 ?_
  refine s0_189 (fun h => absurd h (by decide)) (fun _ => ?_)
  refine s0_192 ?_
  refine s0_193 ?_
  refine s0_197 rfl ?_
  refine s0_199 ?_
  refine s0_201 (fun h => absurd h (by decide)) (fun _ => ?_)
  refine s0_204 ?_
  refine s0_206 (fun h => absurd h (by decide)) (fun _ => ?_)
  refine s0_209 ?_
  refine s0_211 ?_
  refine s0_212 rfl (own_r70) rfl ?_
  refine s0_215 ?_
  refine s0_216 ?_
  refine s0_217 ?_
  refine s0_218 ?_
  refine s0_220 ?_
  refine s0_222 ?_
  refine s0_224 ?_
  refine s0_226 (own_r71) rfl ?_
  refine s0_229 (fun h => absurd h (by decide)) (fun _ => ?_)
  refine s0_232 ?_
  refine s0_233 ?_
  refine s0_237 rfl ?_
  refine s0_239 ?_
  exact s0_241 rfl
set_option maxHeartbeats 4000000 in
theorem own_c121100 (s t : Int32) {m : Nat} : W0 ⟨5, 26, 226, 128⟩ 94 [.val (.int s), .val (.int t), .val (.int 1), .val (.int 2), .val (.int 1), .val (.int 1), .val (.int 0), .val (.int 0), .val (.ref 0), .unset, .unset] [] [(.inl (0, [.ref 1, .ref 2, .ref 3, .ref 4, .ref 5]) : ACell), (.inr (.int, own_a 0 0) : ACell), (.inr (.int, own_a 0 0) : ACell), (.inr (.int, own_b m 0 0 0 0) : ACell), (.inr (.int, own_b m 0 0 0 0) : ACell), (.inr (.int, own_b m 0 0 0 0) : ACell)] (fun r _ => r = some (.int 1)) := by
  refine s0_94 ?_
  refine s0_96 ?_
  refine s0_97 ?_
  refine s0_98 rfl (own_r0) rfl ?_
  refine s0_101 ?_
  refine s0_103 ?_
  refine s0_104 ?_
  refine s0_105 rfl (own_r1) rfl ?_
  refine s0_108 ?_
  refine s0_110 ?_
  refine s0_111 ?_
  refine s0_112 rfl (own_r36) rfl ?_
  refine s0_115 ?_
  refine s0_117 (fun _ => ?_) (fun h => absurd h (by decide))
  refine s0_126 ?_
  refine s0_128 (fun h => absurd h (by decide)) (fun _ => ?_)
  refine s0_131 ?_
  refine s0_133 ?_
  refine s0_134 rfl (own_r62) rfl ?_
  refine s0_137 ?_
  refine s0_139 (fun h => absurd h (by decide)) (fun _ => ?_)
  refine s0_142 ?_
  refine s0_144 ?_
  refine s0_145 rfl (own_r72) rfl ?_
  refine s0_148 ?_
  refine s0_150 (fun _ => ?_) (fun h => absurd h (by decide))
  refine s0_160 ?_
  refine s0_162 ?_
  refine s0_163 rfl (own_r73) rfl ?_
  refine s0_166 ?_
  refine s0_167 ?_
  refine s0_168 ?_
  refine s0_169 ?_
  refine s0_171 ?_
  refine s0_173 ?_
  refine s0_175 ?_
  refine s0_177 (own_r74) rfl ?_
  refine s0_180 rfl ?_
  refine s0_182 ?_
  refine s0_183 ?_
  refine s0_184 (fun h => absurd h (by decide)) (fun _ => ?_)
  refine s0_187 ?_
  refine s0_188 ?_
  refine s0_189 (fun h => absurd h (by decide)) (fun _ => ?_)
  refine s0_192 ?_
  refine s0_193 ?_
  refine s0_197 rfl ?_
  refine s0_199 ?_
  refine s0_201 (fun h => absurd h (by decide)) (fun _ => ?_)
  refine s0_204 ?_
  refine s0_206 (fun h => absurd h (by decide)) (fun _ => ?_)
  refine s0_209 ?_
  refine s0_211 ?_
  refine s0_212 rfl (own_r75) rfl ?_
  refine s0_215 ?_
  refine s0_216 ?_
  refine s0_217 ?_
  refine s0_218 ?_
  refine s0_220 ?_
  refine s0_222 ?_
  refine s0_224 ?_
  refine s0_226 (own_r76) rfl ?_
  refine s0_229 (fun h => absurd h (by decide)) (fun _ => ?_)
  refine s0_232 ?_
  refine s0_233 ?_
  refine s0_237 rfl ?_
  refine s0_239 ?_
  exact s0_241 rfl
set_option maxHeartbeats 4000000 in
theorem own_c121110 (s t : Int32) {m : Nat} : W0 ⟨5, 26, 226, 128⟩ 94 [.val (.int s), .val (.int t), .val (.int 1), .val (.int 2), .val (.int 1), .val (.int 1), .val (.int 1), .val (.int 0), .val (.ref 0), .unset, .unset] [] [(.inl (0, [.ref 1, .ref 2, .ref 3, .ref 4, .ref 5]) : ACell), (.inr (.int, own_a 0 0) : ACell), (.inr (.int, own_a 0 0) : ACell), (.inr (.int, own_b m 0 0 0 0) : ACell), (.inr (.int, own_b m 0 0 0 0) : ACell), (.inr (.int, own_b m 0 0 0 0) : ACell)] (fun r _ => r = some (.int 1)) := by
  refine s0_94 ?_
  refine s0_96 ?_
  refine s0_97 ?_
  refine s0_98 rfl (own_r0) rfl ?_
  refine s0_101 ?_
  refine s0_103 ?_
  refine s0_104 ?_
  refine s0_105 rfl (own_r1) rfl ?_
  refine s0_108 ?_
  refine s0_110 ?_
  refine s0_111 ?_
  refine s0_112 rfl (own_r36) rfl ?_
  refine s0_115 ?_
  refine s0_117 (fun h => absurd h (by decide)) (fun _ => ?_)
  refine s0_120 ?_
  refine s0_122 ?_
  refine s0_123 rfl (own_r41) rfl ?_
  refine s0_126 ?_
  refine s0_128 (fun h => absurd h (by decide)) (fun _ => ?_)
  refine s0_131 ?_
  refine s0_133 ?_
  refine s0_134 rfl (own_r67) rfl ?_
  refine s0_137 ?_
  refine s0_139 (fun h => absurd h (by decide)) (fun _ => ?_)
  refine s0_142 ?_
  refine s0_144 ?_
  refine s0_145 rfl (own_r77) rfl ?_
  refine s0_148 ?_
  refine s0_150 (fun _ => ?_) (fun h => absurd h (by decide))
  refine s0_160 ?_
  refine s0_162 ?_
  refine s0_163 rfl (own_r78) rfl ?_
  refine s0_166 ?_
  refine s0_167 ?_
  refine s0_168 ?_
  refine s0_169 ?_
  refine s0_171 ?_
  refine s0_173 ?_
  refine s0_175 ?_
  refine s0_177 (own_r79) rfl ?_
  refine s0_180 rfl ?_
  refine s0_182 ?_
  refine s0_183 ?_
  refine s0_184 (fun h => absurd h (by decide)) (fun _ => ?_)
  refine s0_187 ?_
  refine s0_188 ?_
  refine s0_189 (fun h => absurd h (by decide)) (fun _ => ?_)
  refine s0_192 ?_
  refine s0_193 ?_
  refine s0_197 rfl ?_
  refine s0_199 ?_
  refine s0_201 (fun h => absurd h (by decide)) (fun _ => ?_)
  refine s0_204 ?_
  refine s0_206 (fun h => absurd h (by decide)) (fun _ => ?_)
  refine s0_209 ?_
  refine s0_211 ?_
  refine s0_212 rfl (own_r80) rfl ?_
  refine s0_215 ?_
  refine s0_216 ?_
  refine s0_217 ?_
  refine s0_218 ?_
  refine s0_220 ?_
  refine s0_222 ?_
  refine s0_224 ?_
  refine s0_226 (own_r81) rfl ?_
  refine s0_229 (fun h => absurd h (by decide)) (fun _ => ?_)
  refine s0_232 ?_
  refine s0_233 ?_
  refine s0_237 rfl ?_
  refine s0_239 ?_
  exact s0_241 rfl
set_option maxHeartbeats 4000000 in
theorem own_c121101 (s t : Int32) {m : Nat} : W0 ⟨5, 26, 226, 128⟩ 94 [.val (.int s), .val (.int t), .val (.int 1), .val (.int 2), .val (.int 1), .val (.int 1), .val (.int 0), .val (.int 1), .val (.ref 0), .unset, .unset] [] [(.inl (0, [.ref 1, .ref 2, .ref 3, .ref 4, .ref 5]) : ACell), (.inr (.int, own_a 0 0) : ACell), (.inr (.int, own_a 0 0) : ACell), (.inr (.int, own_b m 0 0 0 0) : ACell), (.inr (.int, own_b m 0 0 0 0) : ACell), (.inr (.int, own_b m 0 0 0 0) : ACell)] (fun r _ => r = some (.int 1)) := by
  refine s0_94 ?_
  refine s0_96 ?_
  refine s0_97 ?_
  refine s0_98 rfl (own_r0) rfl ?_
  refine s0_101 ?_
  refine s0_103 ?_
  refine s0_104 ?_
  refine s0_105 rfl (own_r1) rfl ?_
  refine s0_108 ?_
  refine s0_110 ?_
  refine s0_111 ?_
  refine s0_112 rfl (own_r36) rfl ?_
  refine s0_115 ?_
  refine s0_117 (fun _ => ?_) (fun h => absurd h (by decide))
  refine s0_126 ?_
  refine s0_128 (fun h => absurd h (by decide)) (fun _ => ?_)
  refine s0_131 ?_
  refine s0_133 ?_
  refine s0_134 rfl (own_r62) rfl ?_
  refine s0_137 ?_
  refine s0_139 (fun h => absurd h (by decide)) (fun _ => ?_)
  refine s0_142 ?_
  refine s0_144 ?_
  refine s0_145 rfl (own_r72) rfl ?_
  refine s0_148 ?_
  refine s0_150 (fun h => absurd h (by decide)) (fun _ => ?_)
  refine s0_153 ?_
  refine s0_155 ?_
  refine s0_156 ?_
  refine s0_157 rfl (own_r82) rfl ?_
  refine s0_160 ?_
  refine s0_162 ?_
  refine s0_163 rfl (own_r63) rfl ?_
  refine s0_166 ?_
  refine s0_167 ?_
  refine s0_168 ?_
  refine s0_169 ?_
  refine s0_171 ?_
  refine s0_173 ?_
  refine s0_175 ?_
  refine s0_177 (own_r83) rfl ?_
  refine s0_180 rfl ?_
  refine s0_182 ?_
  refine s0_183 ?_
  refine s0_184 (fun h => absurd h (by decide)) (fun _ => ?_)
  refine s0_187 ?_
  refine s0_188 ?_
  refine s0_189 (fun h => absurd h (by decide)) (fun _ => ?_)
  refine s0_192 ?_
  refine s0_193 ?_
  refine s0_197 rfl ?_
  refine s0_199 ?_
  refine s0_201 (fun h => absurd h (by decide)) (fun _ => ?_)
  refine s0_204 ?_
  refine s0_206 (fun h => absurd h (by decide)) (fun _ => ?_)
  refine s0_209 ?_
  refine s0_211 ?_
  refine s0_212 rfl (own_r65) rfl ?_
  refine s0_215 ?_
  refine s0_216 ?_
  refine s0_217 ?_
  refine s0_218 ?_
  refine s0_220 ?_
  refine s0_222 ?_
  refine s0_224 ?_
  refine s0_226 (own_r84) rfl ?_
  refine s0_229 (fun h => absurd h (by decide)) (fun _ => ?_)
  refine s0_232 ?_
  refine s0_233 ?_
  refine s0_237 rfl ?_
  refine s0_239 ?_
  exact s0_241 rfl
set_option maxHeartbeats 4000000 in
theorem own_c121111 (s t : Int32) {m : Nat} : W0 ⟨5, 26, 226, 128⟩ 94 [.val (.int s), .val (.int t), .val (.int 1), .val (.int 2), .val (.int 1), .val (.int 1), .val (.int 1), .val (.int 1), .val (.ref 0), .unset, .unset] [] [(.inl (0, [.ref 1, .ref 2, .ref 3, .ref 4, .ref 5]) : ACell), (.inr (.int, own_a 0 0) : ACell), (.inr (.int, own_a 0 0) : ACell), (.inr (.int, own_b m 0 0 0 0) : ACell), (.inr (.int, own_b m 0 0 0 0) : ACell), (.inr (.int, own_b m 0 0 0 0) : ACell)] (fun r _ => r = some (.int 1)) := by
  refine s0_94 ?_
  refine s0_96 ?_
  refine s0_97 ?_
  refine s0_98 rfl (own_r0) rfl ?_
  refine s0_101 ?_
  refine s0_103 ?_
  refine s0_104 ?_
  refine s0_105 rfl (own_r1) rfl ?_
  refine s0_108 ?_
  refine s0_110 ?_
  refine s0_111 ?_
  refine s0_112 rfl (own_r36) rfl ?_
  refine s0_115 ?_
  refine s0_117 (fun h => absurd h (by decide)) (fun _ => ?_)
  refine s0_120 ?_
  refine s0_122 ?_
  refine s0_123 rfl (own_r41) rfl ?_
  refine s0_126 ?_
  refine s0_128 (fun h => absurd h (by decide)) (fun _ => ?_)
  refine s0_131 ?_
  refine s0_133 ?_
  refine s0_134 rfl (own_r67) rfl ?_
  refine s0_137 ?_
  refine s0_139 (fun h => absurd h (by decide)) (fun _ => ?_)
  refine s0_142 ?_
  refine s0_144 ?_
  refine s0_145 rfl (own_r77) rfl ?_
  refine s0_148 ?_
  refine s0_150 (fun h => absurd h (by decide)) (fun _ => ?_)
  refine s0_153 ?_
  refine s0_155 ?_
  refine s0_156 ?_
  refine s0_157 rfl (own_r85) rfl ?_
  refine s0_160 ?_
  refine s0_162 ?_
  refine s0_163 rfl (own_r68) rfl ?_
  refine s0_166 ?_
  refine s0_167 ?_
  refine s0_168 ?_
  refine s0_169 ?_
  refine s0_171 ?_
  refine s0_173 ?_
  refine s0_175 ?_
  refine s0_177 (own_r86) rfl ?_
  refine s0_180 rfl ?_
  refine s0_182 ?_
  refine s0_183 ?_
  refine s0_184 (fun h => absurd h (by decide)) (fun _ => ?_)
  refine s0_187 ?_
  refine s0_188 ?_
  refine s0_189 (fun h => absurd h (by decide)) (fun _ => ?_)
  refine s0_192 ?_
  refine s0_193 ?_
  refine s0_197 rfl ?_
  refine s0_199 ?_
  refine s0_201 (fun h => absurd h (by decide)) (fun _ => ?_)
  refine s0_204 ?_
  refine s0_206 (fun h => absurd h (by decide)) (fun _ => ?_)
  refine s0_209 ?_
  refine s0_211 ?_
  refine s0_212 rfl (own_r70) rfl ?_
  refine s0_215 ?_
  refine s0_216 ?_
  refine s0_217 ?_
  refine s0_218 ?_
  refine s0_220 ?_
  refine s0_222 ?_
  refine s0_224 ?_
  refine s0_226 (own_r87) rfl ?_
  refine s0_229 (fun h => absurd h (by decide)) (fun _ => ?_)
  refine s0_232 ?_
  refine s0_233 ?_
  refine s0_237 rfl ?_
  refine s0_239 ?_
  exact s0_241 rfl
set_option maxHeartbeats 4000000 in
theorem own_c210000 (s t : Int32) {m : Nat} : W0 ⟨5, 26, 226, 128⟩ 94 [.val (.int s), .val (.int t), .val (.int 2), .val (.int 1), .val (.int 0), .val (.int 0), .val (.int 0), .val (.int 0), .val (.ref 0), .unset, .unset] [] [(.inl (0, [.ref 1, .ref 2, .ref 3, .ref 4, .ref 5]) : ACell), (.inr (.int, own_a 0 0) : ACell), (.inr (.int, own_a 0 0) : ACell), (.inr (.int, own_b m 0 0 0 0) : ACell), (.inr (.int, own_b m 0 0 0 0) : ACell), (.inr (.int, own_b m 0 0 0 0) : ACell)] (fun r _ => r = some (.int 1)) := by
  refine s0_94 ?_
  refine s0_96 ?_
  refine s0_97 ?_
  refine s0_98 rfl (own_r0) rfl ?_
  refine s0_101 ?_
  refine s0_103 ?_
  refine s0_104 ?_
  refine s0_105 rfl (own_r88) rfl ?_
  refine s0_108 ?_
  refine s0_110 ?_
  refine s0_111 ?_
  refine s0_112 rfl (own_r89) rfl ?_
  refine s0_115 ?_
  refine s0_117 (fun _ => ?_) (fun h => absurd h (by decide))
  refine s0_126 ?_
  refine s0_128 (fun _ => ?_) (fun h => absurd h (by decide))
  refine s0_137 ?_
  refine s0_139 (fun _ => ?_) (fun h => absurd h (by decide))
  refine s0_148 ?_
  refine s0_150 (fun _ => ?_) (fun h => absurd h (by decide))
  refine s0_160 ?_
  refine s0_162 ?_
  refine s0_163 rfl (own_r90) rfl ?_
  refine s0_166 ?_
  refine s0_167 ?_
  refine s0_168 ?_
  refine s0_169 ?_
  refine s0_171 ?_
  refine s0_173 ?_
  refine s0_175 ?_
  refine s0_177 (own_r91) rfl ?_
  refine s0_180 rfl ?_
  refine s0_182 ?_
  refine s0_183 ?_
  refine s0_184 (fun _ => ?_) (fun h => absurd h (by decide))
  refine s0_192 ?_
  refine s0_193 ?_
  refine s0_197 rfl ?_
  refine s0_199 ?_
  refine s0_201 (fun h => absurd h (by decide)) (fun _ => ?_)
  refine s0_204 ?_
  refine s0_206 (fun h => absurd h (by decide)) (fun _ => ?_)
  refine s0_209 ?_
  refine s0_211 ?_
  refine s0_212 rfl (own_r92) rfl ?_
  refine s0_215 ?_
  refine s0_216 ?_
  refine s0_217 ?_
  refine s0_218 ?_
  refine s0_220 ?_
  refine s0_222 ?_
  refine s0_224 ?_
  refine s0_226 (own_r93) rfl ?_
  refine s0_229 (fun h => absurd h (by decide)) (fun _ => ?_)
  refine s0_232 ?_
  refine s0_233 ?_
  refine s0_237 rfl ?_
  refine s0_239 ?_
  exact s0_241 rfl
set_option maxHeartbeats 4000000 in
theorem own_c210010 (s t : Int32) {m : Nat} : W0 ⟨5, 26, 226, 128⟩ 94 [.val (.int s), .val (.int t), .val (.int 2), .val (.int 1), .val (.int 0), .val (.int 0), .val (.int 1), .val (.int 0), .val (.ref 0), .unset, .unset] [] [(.inl (0, [.ref 1, .ref 2, .ref 3, .ref 4, .ref 5]) : ACell), (.inr (.int, own_a 0 0) : ACell), (.inr (.int, own_a 0 0) : ACell), (.inr (.int, own_b m 0 0 0 0) : ACell), (.inr (.int, own_b m 0 0 0 0) : ACell), (.inr (.int, own_b m 0 0 0 0) : ACell)] (fun r _ => r = some (.int 1)) := by
  refine s0_94 ?_
  refine s0_96 ?_
  refine s0_97 ?_
  refine s0_98 rfl (own_r0) rfl ?_
  refine s0_101 ?_
  refine s0_103 ?_
  refine s0_104 ?_
  refine s0_105 rfl (own_r88) rfl ?_
  refine s0_108 ?_
  refine s0_110 ?_
  refine s0_111 ?_
  refine s0_112 rfl (own_r89) rfl ?_
  refine s0_115 ?_
  refine s0_117 (fun h => absurd h (by decide)) (fun _ => ?_)
  refine s0_120 ?_
  refine s0_122 ?_
  refine s0_123 rfl (own_r94) rfl ?_
  refine s0_126 ?_
  refine s0_128 (fun _ => ?_) (fun h => absurd h (by decide))
  refine s0_137 ?_
  refine s0_139 (fun _ => ?_) (fun h => absurd h (by decide))
  refine s0_148 ?_
  refine s0_150 (fun _ => ?_) (fun h => absurd h (by decide))
  refine s0_160 ?_
  refine s0_162 ?_
  refine s0_163 rfl (own_r95) rfl ?_
  refine s0_166 ?_
  refine s0_167 ?_
  refine s0_168 ?_
  refine s0_169 ?_
  refine s0_171 ?_
  refine s0_173 ?_
  refine s0_175 ?_
  refine s0_177 (own_r96) rfl ?_
  refine s0_180 rfl ?_
  refine s0_182 ?_
  refine s0_183 ?_
  refine s0_184 (fun _ => ?_) (fun h => absurd h (by decide))
  refine s0_192 ?_
  refine s0_193 ?_
  refine s0_197 rfl ?_
  refine s0_199 ?_
  refine s0_201 (fun h => absurd h (by decide)) (fun _ => ?_)
  refine s0_204 ?_
  refine s0_206 (fun h => absurd h (by decide)) (fun _ => ?_)
  refine s0_209 ?_
  refine s0_211 ?_
  refine s0_212 rfl (own_r97) rfl ?_
  refine s0_215 ?_
  refine s0_216 ?_
  refine s0_217 ?_
  refine s0_218 ?_
  refine s0_220 ?_
  refine s0_222 ?_
  refine s0_224 ?_
  refine s0_226 (own_r98) rfl ?_
  refine s0_229 (fun h => absurd h (by decide)) (fun _ => ?_)
  refine s0_232 ?_
  refine s0_233 ?_
  refine s0_237 rfl ?_
  refine s0_239 ?_
  exact s0_241 rfl
set_option maxHeartbeats 4000000 in
theorem own_c210100 (s t : Int32) {m : Nat} : W0 ⟨5, 26, 226, 128⟩ 94 [.val (.int s), .val (.int t), .val (.int 2), .val (.int 1), .val (.int 0), .val (.int 1), .val (.int 0), .val (.int 0), .val (.ref 0), .unset, .unset] [] [(.inl (0, [.ref 1, .ref 2, .ref 3, .ref 4, .ref 5]) : ACell), (.inr (.int, own_a 0 0) : ACell), (.inr (.int, own_a 0 0) : ACell), (.inr (.int, own_b m 0 0 0 0) : ACell), (.inr (.int, own_b m 0 0 0 0) : ACell), (.inr (.int, own_b m 0 0 0 0) : ACell)] (fun r _ => r = some (.int 1)) := by
  refine s0_94 ?_
  refine s0_96 ?_
  refine s0_97 ?_
  refine s0_98 rfl (own_r0) rfl ?_
  refine s0_101 ?_
  refine s0_103 ?_
  refine s0_104 ?_
  refine s0_105 rfl (own_r88) rfl ?_
  refine s0_108 ?_
  refine s0_110 ?_
  refine s0_111 ?_
  refine s0_112 rfl (own_r89) rfl ?_
  refine s0_115 ?_
  refine s0_117 (fun _ => ?_) (fun h => absurd h (by decide))
  refine s0_126 ?_
  refine s0_128 (fun _ => ?_) (fun h => absurd h (by decide))
  refine s0_137 ?_
  refine s0_139 (fun h => absurd h (by decide)) (fun _ => ?_)
  refine s0_142 ?_
  refine s0_144 ?_
  refine s0_145 rfl (own_r99) rfl ?_
  refine s0_148 ?_
  refine s0_150 (fun _ => ?_) (fun h => absurd h (by decide))
  refine s0_160 ?_
  refine s0_162 ?_
  refine s0_163 rfl (own_r100) rfl ?_
  refine s0_166 ?_
  refine s0_167 ?_
  refine s0_168 ?_
  refine s0_169 ?_
  refine s0_171 ?_
  refine s0_173 ?_
  refine s0_175 ?_
  refine s0_177 (own_r101) rfl ?_
  refine s0_180 rfl ?_
  refine s0_182 ?_
  refine s0_183 ?_
  refine s0_184 (fun _ => ?_) (fun h => absurd h (by decide))
  refine s0_192 ?_
  refine s0_193 ?_
  refine s0_197 rfl ?_
  refine s0_199 ?_
  refine s0_201 (fun h => absurd h (by decide)) (fun _ => ?_)
  refine s0_204 ?_
  refine s0_206 (fun h => absurd h (by decide)) (fun _ => ?_)
  refine s0_209 ?_
  refine s0_211 ?_
  refine s0_212 rfl (own_r102) rfl ?_
  refine s0_215 ?_
  refine s0_216 ?_
  refine s0_217 ?_
  refine s0_218 ?_
  refine s0_220 ?_
  refine s0_222 ?_
  refine s0_224 ?_
  refine s0_226 (own_r103) rfl ?_
  refine s0_229 (fun h => absurd h (by decide)) (fun _ => ?_)
  refine s0_232 ?_
  refine s0_233 ?_
  refine s0_237 rfl ?_
  refine s0_239 ?_
  exact s0_241 rfl
set_option maxHeartbeats 4000000 in
theorem own_c210110 (s t : Int32) {m : Nat} : W0 ⟨5, 26, 226, 128⟩ 94 [.val (.int s), .val (.int t), .val (.int 2), .val (.int 1), .val (.int 0), .val (.int 1), .val (.int 1), .val (.int 0), .val (.ref 0), .unset, .unset] [] [(.inl (0, [.ref 1, .ref 2, .ref 3, .ref 4, .ref 5]) : ACell), (.inr (.int, own_a 0 0) : ACell), (.inr (.int, own_a 0 0) : ACell), (.inr (.int, own_b m 0 0 0 0) : ACell), (.inr (.int, own_b m 0 0 0 0) : ACell), (.inr (.int, own_b m 0 0 0 0) : ACell)] (fun r _ => r = some (.int 1)) := by
  refine s0_94 ?_
  refine s0_96 ?_
  refine s0_97 ?_
  refine s0_98 rfl (own_r0) rfl ?_
  refine s0_101 ?_
  refine s0_103 ?_
  refine s0_104 ?_
  refine s0_105 rfl (own_r88) rfl ?_
  refine s0_108 ?_
  refine s0_110 ?_
  refine s0_111 ?_
  refine s0_112 rfl (own_r89) rfl ?_
  refine s0_115 ?_
  refine s0_117 (fun h => absurd h (by decide)) (fun _ => ?_)
  refine s0_120 ?_
  refine s0_122 ?_
  refine s0_123 rfl (own_r94) rfl ?_
  refine s0_126 ?_
  refine s0_128 (fun _ => ?_) (fun h => absurd h (by decide))
  refine s0_137 ?_
  refine s0_139 (fun h => absurd h (by decide)) (fun _ => ?_)
  refine s0_142 ?_
  refine s0_144 ?_
  refine s0_145 rfl (own_r104) rfl ?_
  refine s0_148 ?_
  refine s0_150 (fun _ => ?_) (fun h => absurd h (by decide))
  refine s0_160 ?_
  refine s0_162 ?_
  refine s0_163 rfl (own_r105) rfl ?_
  refine s0_166 ?_
  refine s0_167 ?_
  refine s0_168 ?_
  refine s0_169 ?_
  refine s0_171 ?_
  refine s0_173 ?_
  refine s0_175 ?_
  refine s0_177 (own_r106) rfl ?_
  refine s0_180 rfl ?_
  refine s0_182 ?_
  refine s0_183 ?_
  refine s0_184 (fun _ => ?_) (fun h => absurd h (by decide))
  refine s0_192 ?_
  refine s0_193 ?_
  refine s0_197 rfl ?_
  refine s0_199 ?_
  refine s0_201 (fun h => absurd h (by decide)) (fun _ => ?_)
  refine s0_204 ?_
  refine s0_206 (fun h => absurd h (by decide)) (fun _ => ?_)
  refine s0_209 ?_
  refine s0_211 ?_
  refine s0_212 rfl (own_r107) rfl ?_
  refine s0_215 ?_
  refine s0_216 ?_
  refine s0_217 ?_
  refine s0_218 ?_
  refine s0_220 ?_
  refine s0_222 ?_
  refine s0_224 ?_
  refine s0_226 (own_r108) rfl ?_
  refine s0_229 (fun h => absurd h (by decide)) (fun _ => ?_)
  refine s0_232 ?_
  refine s0_233 ?_
  refine s0_237 rfl ?_
  refine s0_239 ?_
  exact s0_241 rfl
set_option maxHeartbeats 4000000 in
theorem own_c210101 (s t : Int32) {m : Nat} : W0 ⟨5, 26, 226, 128⟩ 94 [.val (.int s), .val (.int t), .val (.int 2), .val (.int 1), .val (.int 0), .val (.int 1), .val (.int 0), .val (.int 1), .val (.ref 0), .unset, .unset] [] [(.inl (0, [.ref 1, .ref 2, .ref 3, .ref 4, .ref 5]) : ACell), (.inr (.int, own_a 0 0) : ACell), (.inr (.int, own_a 0 0) : ACell), (.inr (.int, own_b m 0 0 0 0) : ACell), (.inr (.int, own_b m 0 0 0 0) : ACell), (.inr (.int, own_b m 0 0 0 0) : ACell)] (fun r _ => r = some (.int 1)) := by
  refine s0_94 ?_
  refine s0_96 ?_
  refine s0_97 ?_
  refine s0_98 rfl (own_r0) rfl ?_
  refine s0_101 ?_
  refine s0_103 ?_
  refine s0_104 ?_
  refine s0_105 rfl (own_r88) rfl ?_
  refine s0_108 ?_
  refine s0_110 ?_
  refine s0_111 ?_
  refine s0_112 rfl (own_r89) rfl ?_
  refine s0_115 ?_
  refine s0_117 (fun _ => ?_) (fun h => absurd h (by decide))
  refine s0_126 ?_
  refine s0_128 (fun _ => ?_) (fun h => absurd h (by decide))
  refine s0_137 ?_
  refine s0_139 (fun h => absurd h (by decide)) (fun _ => ?_)
  refine s0_142 ?_
  refine s0_144 ?_
  refine s0_145 rfl (own_r99) rfl ?_
  refine s0_148 ?_
  refine s0_150 (fun h => absurd h (by decide)) (fun _ => ?_)
  refine s0_153 ?_
  refine s0_155 ?_
  refine s0_156 ?_
  refine s0_157 rfl (own_r109) rfl ?_
  refine s0_160 ?_
  refine s0_162 ?_
  refine s0_163 rfl (own_r15) rfl ?_
  refine s0_166 ?_
  refine s0_167 ?_
  refine s0_168 ?_
  refine s0_169 ?_
  refine s0_171 ?_
  refine s0_173 ?_
  refine s0_175 ?_
  refine s0_177 (own_r110) rfl ?_
  refine s0_180 rfl ?_
  refine s0_182 ?_
  refine s0_183 ?_
  refine s0_184 (fun _ => ?_) (fun h => absurd h (by decide))
  refine s0_192 ?_
  refine s0_193 ?_
  refine s0_197 rfl ?_
  refine s0_199 ?_
  refine s0_201 (fun h => absurd h (by decide)) (fun _ => ?_)
  refine s0_204 ?_
  refine s0_206 (fun h => absurd h (by decide)) (fun _ => ?_)
  refine s0_209 ?_
  refine s0_211 ?_
  refine s0_212 rfl (own_r111) rfl ?_
  refine s0_215 ?_
  refine s0_216 ?_
  refine s0_217 ?_
  refine s0_218 ?_
  refine s0_220 ?_
  refine s0_222 ?_
  refine s0_224 ?_
  refine s0_226 (own_r112) rfl ?_
  refine s0_229 (fun h => absurd h (by decide)) (fun _ => ?_)
  refine s0_232 ?_
  refine s0_233 ?_
  refine s0_237 rfl ?_
  refine s0_239 ?_
  exact s0_241 rfl
set_option maxHeartbeats 4000000 in
theorem own_c210111 (s t : Int32) {m : Nat} : W0 ⟨5, 26, 226, 128⟩ 94 [.val (.int s), .val (.int t), .val (.int 2), .val (.int 1), .val (.int 0), .val (.int 1), .val (.int 1), .val (.int 1), .val (.ref 0), .unset, .unset] [] [(.inl (0, [.ref 1, .ref 2, .ref 3, .ref 4, .ref 5]) : ACell), (.inr (.int, own_a 0 0) : ACell), (.inr (.int, own_a 0 0) : ACell), (.inr (.int, own_b m 0 0 0 0) : ACell), (.inr (.int, own_b m 0 0 0 0) : ACell), (.inr (.int, own_b m 0 0 0 0) : ACell)] (fun r _ => r = some (.int 1)) := by
  refine s0_94 ?_
  refine s0_96 ?_
  refine s0_97 ?_
  refine s0_98 rfl (own_r0) rfl ?_
  refine s0_101 ?_
  refine s0_103 ?_
  refine s0_104 ?_
  refine s0_105 rfl (own_r88) rfl ?_
  refine s0_108 ?_
  refine s0_110 ?_
  refine s0_111 ?_
  refine s0_112 rfl (own_r89) rfl ?_
  refine s0_115 ?_
  refine s0_117 (fun h => absurd h (by decide)) (fun _ => ?_)
  refine s0_120 ?_
  refine s0_122 ?_
  refine s0_123 rfl (own_r94) rfl ?_
  refine s0_126 ?_
  refine s0_128 (fun _ => ?_) (fun h => absurd h (by decide))
  refine s0_137 ?_
  refine s0_139 (fun h => absurd h (by decide)) (fun _ => ?_)
  refine s0_142 ?_
  refine s0_144 ?_
  refine s0_145 rfl (own_r104) rfl ?_
  refine s0_148 ?_
  refine s0_150 (fun h => absurd h (by decide)) (fun _ => ?_)
  refine s0_153 ?_
  refine s0_155 ?_
  refine s0_156 ?_
  refine s0_157 rfl (own_r113) rfl ?_
  refine s0_160 ?_
  refine s0_162 ?_
  refine s0_163 rfl (own_r114) rfl ?_
  refine s0_166 ?_
  refine s0_167 ?_
  refine s0_168 ?_
  refine s0_169 ?_
  refine s0_171 ?_
  refine s0_173 ?_
  refine s0_175 ?_
  refine s0_177 (own_r115) rfl ?_
  refine s0_180 rfl ?_
  refine s0_182 ?_
  refine s0_183 ?_
  refine s0_184 (fun _ => ?_) (fun h => absurd h (by decide))
  refine s0_192 ?_
  refine s0_193 ?_
  refine s0_197 rfl ?_
  refine s0_199 ?_
  refine s0_201 (fun h => absurd h (by decide)) (fun _ => ?_)
  refine s0_204 ?_
  refine s0_206 (fun h => absurd h (by decide)) (fun _ => ?_)
  refine s0_209 ?_
  refine s0_211 ?_
  refine s0_212 rfl (own_r116) rfl ?_
  refine s0_215 ?_
  refine s0_216 ?_
  refine s0_217 ?_
  refine s0_218 ?_
  refine s0_220 ?_
  refine s0_222 ?_
  refine s0_224 ?_
  refine s0_226 (own_r117) rfl ?_
  refine s0_229 (fun h => absurd h (by decide)) (fun _ => ?_)
  refine s0_232 ?_
  refine s0_233 ?_
  refine s0_237 rfl ?_
  refine s0_239 ?_
  exact s0_241 rfl
set_option maxHeartbeats 4000000 in
theorem own_c211000 (s t : Int32) {m : Nat} : W0 ⟨5, 26, 226, 128⟩ 94 [.val (.int s), .val (.int t), .val (.int 2), .val (.int 1), .val (.int 1), .val (.int 0), .val (.int 0), .val (.int 0), .val (.ref 0), .unset, .unset] [] [(.inl (0, [.ref 1, .ref 2, .ref 3, .ref 4, .ref 5]) : ACell), (.inr (.int, own_a 0 0) : ACell), (.inr (.int, own_a 0 0) : ACell), (.inr (.int, own_b m 0 0 0 0) : ACell), (.inr (.int, own_b m 0 0 0 0) : ACell), (.inr (.int, own_b m 0 0 0 0) : ACell)] (fun r _ => r = some (.int 1)) := by
  refine s0_94 ?_
  refine s0_96 ?_
  refine s0_97 ?_
  refine s0_98 rfl (own_r0) rfl ?_
  refine s0_101 ?_
  refine s0_103 ?_
  refine s0_104 ?_
  refine s0_105 rfl (own_r88) rfl ?_
  refine s0_108 ?_
  refine s0_110 ?_
  refine s0_111 ?_
  refine s0_112 rfl (own_r89) rfl ?_
  refine s0_115 ?_
  refine s0_117 (fun _ => ?_) (fun h => absurd h (by decide))
  refine s0_126 ?_
  refine s0_128 (fun h => absurd h (by decide)) (fun _ => ?_)
  refine s0_131 ?_
  refine s0_133 ?_
  refine s0_134 rfl (own_r118) rfl ?_
  refine s0_137 ?_
  refine s0_139 (fun _ => ?_) (fun h => absurd h (by decide))
  refine s0_148 ?_
  refine s0_150 (fun _ => ?_) (fun h => absurd h (by decide))
  refine s0_160 ?_
  refine s0_162 ?_
  refine s0_163 rfl (own_r119) rfl ?_
  refine s0_166 ?_
  refine s0_167 ?_
  refine s0_168 ?_
  refine s0_169 ?_
  refine s0_171 ?_
  refine s0_173 ?_
  refine s0_175 ?_
  refine s0_177 (own_r120) rfl ?_
  refine s0_180 rfl ?_
  refine s0_182 ?_
  refine s0_183 ?_
  refine s0_184 (fun _ => ?_) (fun h => absurd h (by decide))
  refine s0_192 ?_
  refine s0_193 ?_
  refine s0_197 rfl ?_
  refine s0_199 ?_
  refine s0_201 (fun h => absurd h (by decide)) (fun _ => ?_)
  refine s0_204 ?_
  refine s0_206 (fun h => absurd h (by decide)) (fun _ => ?_)
  refine s0_209 ?_
  refine s0_211 ?_
  refine s0_212 rfl (own_r121) rfl ?_
  refine s0_215 ?_
  refine s0_216 ?_
  refine s0_217 ?_
  refine s0_218 ?_
  refine s0_220 ?_
  refine s0_222 ?_
  refine s0_224 ?_
  refine s0_226 (own_r122) rfl ?_
  refine s0_229 (fun h => absurd h (by decide)) (fun _ => ?_)
  refine s0_232 ?_
  refine s0_233 ?_
  refine s0_237 rfl ?_
  refine s0_239 ?_
  exact s0_241 rfl
set_option maxHeartbeats 4000000 in
theorem own_c211010 (s t : Int32) {m : Nat} : W0 ⟨5, 26, 226, 128⟩ 94 [.val (.int s), .val (.int t), .val (.int 2), .val (.int 1), .val (.int 1), .val (.int 0), .val (.int 1), .val (.int 0), .val (.ref 0), .unset, .unset] [] [(.inl (0, [.ref 1, .ref 2, .ref 3, .ref 4, .ref 5]) : ACell), (.inr (.int, own_a 0 0) : ACell), (.inr (.int, own_a 0 0) : ACell), (.inr (.int, own_b m 0 0 0 0) : ACell), (.inr (.int, own_b m 0 0 0 0) : ACell), (.inr (.int, own_b m 0 0 0 0) : ACell)] (fun r _ => r = some (.int 1)) := by
  refine s0_94 ?_
  refine s0_96 ?_
  refine s0_97 ?_
  refine s0_98 rfl (own_r0) rfl ?_
  refine s0_101 ?_
  refine s0_103 ?_
  refine s0_104 ?_
  refine s0_105 rfl (own_r88) rfl ?_
  refine s0_108 ?_
  refine s0_110 ?_
  refine s0_111 ?_
  refine s0_112 rfl (own_r89) rfl ?_
  refine s0_115 ?_
  refine s0_117 (fun h => absurd h (by decide)) (fun _ => ?_)
  refine s0_120 ?_
  refine s0_122 ?_
  refine s0_123 rfl (own_r94) rfl ?_
  refine s0_126 ?_
  refine s0_128 (fun h => absurd h (by decide)) (fun _ => ?_)
  refine s0_131 ?_
  refine s0_133 ?_
  refine s0_134 rfl (own_r123) rfl ?_
  refine s0_137 ?_
  refine s0_139 (fun _ => ?_) (fun h => absurd h (by decide))
  refine s0_148 ?_
  refine s0_150 (fun _ => ?_) (fun h => absurd h (by decide))
  refine s0_160 ?_
  refine s0_162 ?_
  refine s0_163 rfl (own_r124) rfl ?_
  refine s0_166 ?_
  refine s0_167 ?_
  refine s0_168 ?_
  refine s0_169 ?_
  refine s0_171 ?_
  refine s0_173 ?_
  refine s0_175 ?_
  refine s0_177 (own_r125) rfl ?_
  refine s0_180 rfl ?_
  refine s0_182 ?_
  refine s0_183 ?_
  refine s0_184 (fun _ => ?_) (fun h => absurd h (by decide))
  refine s0_192 ?_
  refine s0_193 ?_
  refine s0_197 rfl ?_
  refine s0_199 ?_
  refine s0_201 (fun h => absurd h (by decide)) (fun _ => ?_)
  refine s0_204 ?_
  refine s0_206 (fun h => absurd h (by decide)) (fun _ => ?_)
  refine s0_209 ?_
  refine s0_211 ?_
  refine s0_212 rfl (own_r126) rfl ?_
  refine s0_215 ?_
  refine s0_216 ?_
  refine s0_217 ?_
  refine s0_218 ?_
  refine s0_220 ?_
  refine s0_222 ?_
  refine s0_224 ?_
  refine s0_226 (own_r127) rfl ?_
  refine s0_229 (fun h => absurd h (by decide)) (fun _ => ?_)
  refine s0_232 ?_
  refine s0_233 ?_
  refine s0_237 rfl ?_
  refine s0_239 ?_
  exact s0_241 rfl
set_option maxHeartbeats 4000000 in
theorem own_c211100 (s t : Int32) {m : Nat} : W0 ⟨5, 26, 226, 128⟩ 94 [.val (.int s), .val (.int t), .val (.int 2), .val (.int 1), .val (.int 1), .val (.int 1), .val (.int 0), .val (.int 0), .val (.ref 0), .unset, .unset] [] [(.inl (0, [.ref 1, .ref 2, .ref 3, .ref 4, .ref 5]) : ACell), (.inr (.int, own_a 0 0) : ACell), (.inr (.int, own_a 0 0) : ACell), (.inr (.int, own_b m 0 0 0 0) : ACell), (.inr (.int, own_b m 0 0 0 0) : ACell), (.inr (.int, own_b m 0 0 0 0) : ACell)] (fun r _ => r = some (.int 1)) := by
  refine s0_94 ?_
  refine s0_96 ?_
  refine s0_97 ?_
  refine s0_98 rfl (own_r0) rfl ?_
  refine s0_101 ?_
  refine s0_103 ?_
  refine s0_104 ?_
  refine s0_105 rfl (own_r88) rfl ?_
  refine s0_108 ?_
  refine s0_110 ?_
  refine s0_111 ?_
  refine s0_112 rfl (own_r89) rfl ?_
  refine s0_115 ?_
  refine s0_117 (fun _ => ?_) (fun h => absurd h (by decide))
  refine s0_126 ?_
  refine s0_128 (fun h => absurd h (by decide)) (fun _ => ?_)
  refine s0_131 ?_
  refine s0_133 ?_
  refine s0_134 rfl (own_r118) rfl ?_
  refine s0_137 ?_
  refine s0_139 (fun h => absurd h (by decide)) (fun _ => ?_)
  refine s0_142 ?_
  refine s0_144 ?_
  refine s0_145 rfl (own_r128) rfl ?_
  refine s0_148 ?_
  refine s0_150 (fun _ => ?_) (fun h => absurd h (by decide))
  refine s0_160 ?_
  refine s0_162 ?_
  refine s0_163 rfl (own_r129) rfl ?_
  refine s0_166 ?_
  refine s0_167 ?_
  refine s0_168 ?_
  refine s0_169 ?_
  refine s0_171 ?_
  refine s0_173 ?_
  refine s0_175 ?_
  refine s0_177 (own_r130) rfl ?_
  refine s0_180 rfl ?_
  refine s0_182 ?_
  refine s0_183 ?_
  refine s0_184 (fun _ => ?_) (fun h => absurd h (by decide))
  refine s0_192 ?_
  refine s0_193 ?_
  refine s0_197 rfl ?_
  refine s0_199 ?_
  refine s0_201 (fun h => absurd h (by decide)) (fun _ => ?_)
  refine s0_204 ?_
  refine s0_206 (fun h => absurd h (by decide)) (fun _ => ?_)
  refine s0_209 ?_
  refine s0_211 ?_
  refine s0_212 rfl (own_r131) rfl ?_
  refine s0_215 ?_
  refine s0_216 ?_
  refine s0_217 ?_
  refine s0_218 ?_
  refine s0_220 ?_
  refine s0_222 ?_
  refine s0_224 ?_
  refine s0_226 (own_r132) rfl ?_
  refine s0_229 (fun h => absurd h (by decide)) (fun _ => ?_)
  refine s0_232 ?_
  refine s0_233 ?_
  refine s0_237 rfl ?_
  refine s0_239 ?_
  exact s0_241 rfl
set_option maxHeartbeats 4000000 in
theorem own_c211110 (s t : Int32) {m : Nat} : W0 ⟨5, 26, 226, 128⟩ 94 [.val (.int s), .val (.int t), .val (.int 2), .val (.int 1), .val (.int 1), .val (.int 1), .val (.int 1), .val (.int 0), .val (.ref 0), .unset, .unset] [] [(.inl (0, [.ref 1, .ref 2, .ref 3, .ref 4, .ref 5]) : ACell), (.inr (.int, own_a 0 0) : ACell), (.inr (.int, own_a 0 0) : ACell), (.inr (.int, own_b m 0 0 0 0) : ACell), (.inr (.int, own_b m 0 0 0 0) : ACell), (.inr (.int, own_b m 0 0 0 0) : ACell)] (fun r _ => r = some (.int 1)) := by
  refine s0_94 ?_
  refine s0_96 ?_
  refine s0_97 ?_
  refine s0_98 rfl (own_r0) rfl ?_
  refine s0_101 ?_
  refine s0_103 ?_
  refine s0_104 ?_
  refine s0_105 rfl (own_r88) rfl ?_
  refine s0_108 ?_
  refine s0_110 ?_
  refine s0_111 ?_
  refine s0_112 rfl (own_r89) rfl ?_
  refine s0_115 ?_
  refine s0_117 (fun h => absurd h (by decide)) (fun _ => ?_)
  refine s0_120 ?_
  refine s0_122 ?_
  refine s0_123 rfl (own_r94) rfl ?_
  refine s0_126 ?_
  refine s0_128 (fun h => absurd h (by decide)) (fun _ => ?_)
  refine s0_131 ?_
  refine s0_133 ?_
  refine s0_134 rfl (own_r123) rfl ?_
  refine s0_137 ?_
  refine s0_139 (fun h => absurd h (by decide)) (fun _ => ?_)
  refine s0_142 ?_
  refine s0_144 ?_
  refine s0_145 rfl (own_r133) rfl ?_
  refine s0_148 ?_
  refine s0_150 (fun _ => ?_) (fun h => absurd h (by decide))
  refine s0_160 ?_
  refine s0_162 ?_
  refine s0_163 rfl (own_r134) rfl ?_
  refine s0_166 ?_
  refine s0_167 ?_
  refine s0_168 ?_
  refine s0_169 ?_
  refine s0_171 ?_
  refine s0_173 ?_
  refine s0_175 ?_
  refine s0_177 (own_r135) rfl ?_
  refine s0_180 rfl ?_
  refine s0_182 ?_
  refine s0_183 ?_
  refine s0_184 (fun _ => ?_) (fun h => absurd h (by decide))
  refine s0_192 ?_
  refine s0_193 ?_
  refine s0_197 rfl ?_
  refine s0_199 ?_
  refine s0_201 (fun h => absurd h (by decide)) (fun _ => ?_)
  refine s0_204 ?_
  refine s0_206 (fun h => absurd h (by decide)) (fun _ => ?_)
  refine s0_209 ?_
  refine s0_211 ?_
  refine s0_212 rfl (own_r136) rfl ?_
  refine s0_215 ?_
  refine s0_216 ?_
  refine s0_217 ?_
  refine s0_218 ?_
  refine s0_220 ?_
  refine s0_222 ?_
  refine s0_224 ?_
  refine s0_226 (own_r137) rfl ?_
  refine s0_229 (fun h => absurd h (by decide)) (fun _ => ?_)
  refine s0_232 ?_
  refine s0_233 ?_
  refine s0_237 rfl ?_
  refine s0_239 ?_
  exact s0_241 rfl
set_option maxHeartbeats 4000000 in
theorem own_c211101 (s t : Int32) {m : Nat} : W0 ⟨5, 26, 226, 128⟩ 94 [.val (.int s), .val (.int t), .val (.int 2), .val (.int 1), .val (.int 1), .val (.int 1), .val (.int 0), .val (.int 1), .val (.ref 0), .unset, .unset] [] [(.inl (0, [.ref 1, .ref 2, .ref 3, .ref 4, .ref 5]) : ACell), (.inr (.int, own_a 0 0) : ACell), (.inr (.int, own_a 0 0) : ACell), (.inr (.int, own_b m 0 0 0 0) : ACell), (.inr (.int, own_b m 0 0 0 0) : ACell), (.inr (.int, own_b m 0 0 0 0) : ACell)] (fun r _ => r = some (.int 1)) := by
  refine s0_94 ?_
  refine s0_96 ?_
  refine s0_97 ?_
  refine s0_98 rfl (own_r0) rfl ?_
  refine s0_101 ?_
  refine s0_103 ?_
  refine s0_104 ?_
  refine s0_105 rfl (own_r88) rfl ?_
  refine s0_108 ?_
  refine s0_110 ?_
  refine s0_111 ?_
  refine s0_112 rfl (own_r89) rfl ?_
  refine s0_115 ?_
  refine s0_117 (fun _ => ?_) (fun h => absurd h (by decide))
  refine s0_126 ?_
  refine s0_128 (fun h => absurd h (by decide)) (fun _ => ?_)
  refine s0_131 ?_
  refine s0_133 ?_
  refine s0_134 rfl (own_r118) rfl ?_
  refine s0_137 ?_
  refine s0_139 (fun h => absurd h (by decide)) (fun _ => ?_)
  refine s0_142 ?_
  refine s0_144 ?_
  refine s0_145 rfl (own_r128) rfl ?_
  refine s0_148 ?_
  refine s0_150 (fun h => absurd h (by decide)) (fun _ => ?_)
  refine s0_153 ?_
  refine s0_155 ?_
  refine s0_156 ?_
  refine s0_157 rfl (own_r138) rfl ?_
  refine s0_160 ?_
  refine s0_162 ?_
  refine s0_163 rfl (own_r139) rfl ?_
  refine s0_166 ?_
  refine s0_167 ?_
  refine s0_168 ?_
  refine s0_169 ?_
  refine s0_171 ?_
  refine s0_173 ?_
  refine s0_175 ?_
  refine s0_177 (own_r140) rfl ?_
  refine s0_180 rfl ?_
  refine s0_182 ?_
  refine s0_183 ?_
  refine s0_184 (fun _ => ?_) (fun h => absurd h (by decide))
  refine s0_192 ?_
  refine s0_193 ?_
  refine s0_197 rfl ?_
  refine s0_199 ?_
  refine s0_201 (fun h => absurd h (by decide)) (fun _ => ?_)
  refine s0_204 ?_
  refine s0_206 (fun h => absurd h (by decide)) (fun _ => ?_)
  refine s0_209 ?_
  refine s0_211 ?_
  refine s0_212 rfl (own_r141) rfl ?_
  refine s0_215 ?_
  refine s0_216 ?_
  refine s0_217 ?_
  refine s0_218 ?_
  refine s0_220 ?_
  refine s0_222 ?_
  refine s0_224 ?_
  refine s0_226 (own_r142) rfl ?_
  refine s0_229 (fun h => absurd h (by decide)) (fun _ => ?_)
  refine s0_232 ?_
  refine s0_233 ?_
  refine s0_237 rfl ?_
  refine s0_239 ?_
  exact s0_241 rfl
set_option maxHeartbeats 4000000 in
theorem own_c211111 (s t : Int32) {m : Nat} : W0 ⟨5, 26, 226, 128⟩ 94 [.val (.int s), .val (.int t), .val (.int 2), .val (.int 1), .val (.int 1), .val (.int 1), .val (.int 1), .val (.int 1), .val (.ref 0), .unset, .unset] [] [(.inl (0, [.ref 1, .ref 2, .ref 3, .ref 4, .ref 5]) : ACell), (.inr (.int, own_a 0 0) : ACell), (.inr (.int, own_a 0 0) : ACell), (.inr (.int, own_b m 0 0 0 0) : ACell), (.inr (.int, own_b m 0 0 0 0) : ACell), (.inr (.int, own_b m 0 0 0 0) : ACell)] (fun r _ => r = some (.int 1)) := by
  refine s0_94 ?_
  refine s0_96 ?_
  refine s0_97 ?_
  refine s0_98 rfl (own_r0) rfl ?_
  refine s0_101 ?_
  refine s0_103 ?_
  refine s0_104 ?_
  refine s0_105 rfl (own_r88) rfl ?_
  refine s0_108 ?_
  refine s0_110 ?_
  refine s0_111 ?_
  refine s0_112 rfl (own_r89) rfl ?_
  refine s0_115 ?_
  refine s0_117 (fun h => absurd h (by decide)) (fun _ => ?_)
  refine s0_120 ?_
  refine s0_122 ?_
  refine s0_123 rfl (own_r94) rfl ?_
  refine s0_126 ?_
  refine s0_128 (fun h => absurd h (by decide)) (fun _ => ?_)
  refine s0_131 ?_
  refine s0_133 ?_
  refine s0_134 rfl (own_r123) rfl ?_
  refine s0_137 ?_
  refine s0_139 (fun h => absurd h (by decide)) (fun _ => ?_)
  refine s0_142 ?_
  refine s0_144 ?_
  refine s0_145 rfl (own_r133) rfl ?_
  refine s0_148 ?_
  refine s0_150 (fun h => absurd h (by decide)) (fun _ => ?_)
  refine s0_153 ?_
  refine s0_155 ?_
  refine s0_156 ?_
  refine s0_157 rfl (own_r143) rfl ?_
  refine s0_160 ?_
  refine s0_162 ?_
  refine s0_163 rfl (own_r144) rfl ?_
  refine s0_166 ?_
  refine s0_167 ?_
  refine s0_168 ?_
  refine s0_169 ?_
  refine s0_171 ?_
  refine s0_173 ?_
  refine s0_175 ?_
  refine s0_177 (own_r145) rfl ?_
  refine s0_180 rfl ?_
  refine s0_182 ?_
  refine s0_183 ?_
  refine s0_184 (fun _ => ?_) (fun h => absurd h (by decide))
  refine s0_192 ?_
  refine s0_193 ?_
  refine s0_197 rfl ?_
  refine s0_199 ?_
  refine s0_201 (fun h => absurd h (by decide)) (fun _ => ?_)
  refine s0_204 ?_
  refine s0_206 (fun h => absurd h (by decide)) (fun _ => ?_)
  refine s0_209 ?_
  refine s0_211 ?_
  refine s0_212 rfl (own_r146) rfl ?_
  refine s0_215 ?_
  refine s0_216 ?_
  refine s0_217 ?_
  refine s0_218 ?_
  refine s0_220 ?_
  refine s0_222 ?_
  refine s0_224 ?_
  refine s0_226 (own_r147) rfl ?_
  refine s0_229 (fun h => absurd h (by decide)) (fun _ => ?_)
  refine s0_232 ?_
  refine s0_233 ?_
  refine s0_237 rfl ?_
  refine s0_239 ?_
  exact s0_241 rfl
set_option maxHeartbeats 4000000 in
theorem own_c220000 (s t : Int32) {m : Nat} : W0 ⟨5, 26, 226, 128⟩ 94 [.val (.int s), .val (.int t), .val (.int 2), .val (.int 2), .val (.int 0), .val (.int 0), .val (.int 0), .val (.int 0), .val (.ref 0), .unset, .unset] [] [(.inl (0, [.ref 1, .ref 2, .ref 3, .ref 4, .ref 5]) : ACell), (.inr (.int, own_a 0 0) : ACell), (.inr (.int, own_a 0 0) : ACell), (.inr (.int, own_b m 0 0 0 0) : ACell), (.inr (.int, own_b m 0 0 0 0) : ACell), (.inr (.int, own_b m 0 0 0 0) : ACell)] (fun r _ => r = some (.int 1)) := by
  refine s0_94 ?_
  refine s0_96 ?_
  refine s0_97 ?_
  refine s0_98 rfl (own_r0) rfl ?_
  refine s0_101 ?_
  refine s0_103 ?_
  refine s0_104 ?_
  refine s0_105 rfl (own_r88) rfl ?_
  refine s0_108 ?_
  refine s0_110 ?_
  refine s0_111 ?_
  refine s0_112 rfl (own_r148) rfl ?_
  refine s0_115 ?_
  refine s0_117 (fun _ => ?_) (fun h => absurd h (by decide))
  refine s0_126 ?_
  refine s0_128 (fun _ => ?_) (fun h => absurd h (by decide))
  refine s0_137 ?_
  refine s0_139 (fun _ => ?_) (fun h => absurd h (by decide))
  refine s0_148 ?_
  refine s0_150 (fun _ => ?_) (fun h => absurd h (by decide))
  refine s0_160 ?_
  refine s0_162 ?_
  refine s0_163 rfl (own_r149) rfl ?_
  refine s0_166 ?_
  refine s0_167 ?_
  refine s0_168 ?_
  refine s0_169 ?_
  refine s0_171 ?_
  refine s0_173 ?_
  refine s0_175 ?_
  refine s0_177 (own_r150) rfl ?_
  refine s0_180 rfl ?_
  refine s0_182 ?_
  refine s0_183 ?_
  refine s0_184 (fun _ => ?_) (fun h => absurd h (by decide))
  refine s0_192 ?_
  refine s0_193 ?_
  refine s0_197 rfl ?_
  refine s0_199 ?_
  refine s0_201 (fun h => absurd h (by decide)) (fun _ => ?_)
  refine s0_204 ?_
  refine s0_206 (fun h => absurd h (by decide)) (fun _ => ?_)
  refine s0_209 ?_
  refine s0_211 ?_
  refine s0_212 rfl (own_r151) rfl ?_
  refine s0_215 ?_
  refine s0_216 ?_
  refine s0_217 ?_
  refine s0_218 ?_
  refine s0_220 ?_
  refine s0_222 ?_
  refine s0_224 ?_
  refine s0_226 (own_r152) rfl ?_
  refine s0_229 (fun h => absurd h (by decide)) (fun _ => ?_)
  refine s0_232 ?_
  refine s0_233 ?_
  refine s0_237 rfl ?_
  refine s0_239 ?_
  exact s0_241 rfl
set_option maxHeartbeats 4000000 in
theorem own_c220010 (s t : Int32) {m : Nat} : W0 ⟨5, 26, 226, 128⟩ 94 [.val (.int s), .val (.int t), .val (.int 2), .val (.int 2), .val (.int 0), .val (.int 0), .val (.int 1), .val (.int 0), .val (.ref 0), .unset, .unset] [] [(.inl (0, [.ref 1, .ref 2, .ref 3, .ref 4, .ref 5]) : ACell), (.inr (.int, own_a 0 0) : ACell), (.inr (.int, own_a 0 0) : ACell), (.inr (.int, own_b m 0 0 0 0) : ACell), (.inr (.int, own_b m 0 0 0 0) : ACell), (.inr (.int, own_b m 0 0 0 0) : ACell)] (fun r _ => r = some (.int 1)) := by
  refine s0_94 ?_
  refine s0_96 ?_
  refine s0_97 ?_
  refine s0_98 rfl (own_r0) rfl ?_
  refine s0_101 ?_
  refine s0_103 ?_
  refine s0_104 ?_
  refine s0_105 rfl (own_r88) rfl ?_
  refine s0_108 ?_
  refine s0_110 ?_
  refine s0_111 ?_
  refine s0_112 rfl (own_r148) rfl ?_
  refine s0_115 ?_
  refine s0_117 (fun h => absurd h (by decide)) (fun _ => ?_)
  refine s0_120 ?_
  refine s0_122 ?_
  refine s0_123 rfl (own_r153) rfl ?_
  refine s0_126 ?_
  refine s0_128 (fun _ => ?_) (fun h => absurd h (by decide))
  refine s0_137 ?_
  refine s0_139 (fun _ => ?_) (fun h => absurd h (by decide))
  refine s0_148 ?_
  refine s0_150 (fun _ => ?_) (fun h => absurd h (by decide))
  refine s0_160 ?_
  refine s0_162 ?_
  refine s0_163 rfl (own_r154) rfl ?_
  refine s0_166 ?_
  refine s0_167 ?_
  refine s0_168 ?_
  refine s0_169 ?_
  refine s0_171 ?_
  refine s0_173 ?_
  refine s0_175 ?_
  refine s0_177 (own_r155) rfl ?_
  refine s0_180 rfl ?_
  refine s0_182 ?_
  refine s0_183 ?_
  refine s0_184 (fun _ => ?_) (fun h => absurd h (by decide))
  refine s0_192 ?_
  refine s0_193 ?_
  refine s0_197 rfl ?_
  refine s0_199 ?_
  refine s0_201 (fun h => absurd h (by decide)) (fun _ => ?_)
  refine s0_204 ?_
  refine s0_206 (fun h => absurd h (by decide)) (fun _ => ?_)
  refine s0_209 ?_
  refine s0_211 ?_
  refine s0_212 rfl (own_r156) rfl ?_
  refine s0_215 ?_
  refine s0_216 ?_
  refine s0_217 ?_
  refine s0_218 ?_
  refine s0_220 ?_
  refine s0_222 ?_
  refine s0_224 ?_
  refine s0_226 (own_r157) rfl ?_
  refine s0_229 (fun h => absurd h (by decide)) (fun _ => ?_)
  refine s0_232 ?_
  refine s0_233 ?_
  refine s0_237 rfl ?_
  refine s0_239 ?_
  exact s0_241 rfl
set_option maxHeartbeats 4000000 in
theorem own_c220100 (s t : Int32) {m : Nat} : W0 ⟨5, 26, 226, 128⟩ 94 [.val (.int s), .val (.int t), .val (.int 2), .val (.int 2), .val (.int 0), .val (.int 1), .val (.int 0), .val (.int 0), .val (.ref 0), .unset, .unset] [] [(.inl (0, [.ref 1, .ref 2, .ref 3, .ref 4, .ref 5]) : ACell), (.inr (.int, own_a 0 0) : ACell), (.inr (.int, own_a 0 0) : ACell), (.inr (.int, own_b m 0 0 0 0) : ACell), (.inr (.int, own_b m 0 0 0 0) : ACell), (.inr (.int, own_b m 0 0 0 0) : ACell)] (fun r _ => r = some (.int 1)) := by
  refine s0_94 ?_
  refine s0_96 ?_
  refine s0_97 ?_
  refine s0_98 rfl (own_r0) rfl ?_
  refine s0_101 ?_
  refine s0_103 ?_
  refine s0_104 ?_
  refine s0_105 rfl (own_r88) rfl ?_
  refine s0_108 ?_
  refine s0_110 ?_
  refine s0_111 ?_
  refine s0_112 rfl (own_r148) rfl ?_
  refine s0_115 ?_
  refine s0_117 (fun _ => ?_) (fun h => absurd h (by decide))
  refine s0_126 ?_
  refine s0_128 (fun _ => ?_) (fun h => absurd h (by decide))
  refine s0_137 ?_
  refine s0_139 (fun h => absurd h (by decide)) (fun _ => ?_)
  refine s0_142 ?_
  refine s0_144 ?_
  refine s0_145 rfl (own_r158) rfl ?_
  refine s0_148 ?_
  refine s0_150 (fun _ => ?_) (fun h => absurd h (by decide))
  refine s0_160 ?_
  refine s0_162 ?_
  refine s0_163 rfl (own_r159) rfl ?_
  refine s0_166 ?_
  refine s0_167 ?_
  refine s0_168 ?_
  refine s0_169 ?_
  refine s0_171 ?_
  refine s0_173 ?_
  refine s0_175 ?_
  refine s0_177 (own_r160) rfl ?_
  refine s0_180 rfl ?_
  refine s0_182 ?_
  refine s0_183 ?_
  refine s0_184 (fun _ => ?_) (fun h => absurd h (by decide))
  refine s0_192 ?_
  refine s0_193 ?_
  refine s0_197 rfl ?_
  refine s0_199 ?_
  refine s0_201 (fun h => absurd h (by decide)) (fun _ => ?_)
  refine s0_204 ?_
  refine s0_206 (fun h => absurd h (by decide)) (fun _ => ?_)
  refine s0_209 ?_
  refine s0_211 ?_
  refine s0_212 rfl (own_r161) rfl ?_
  refine s0_215 ?_
  refine s0_216 ?_
  refine s0_217 ?_
  refine s0_218 ?_
  refine s0_220 ?_
  refine s0_222 ?_
  refine s0_224 ?_
  refine s0_226 (own_r162) rfl ?_
  refine s0_229 (fun h => absurd h (by decide)) (fun _ => ?_)
  refine s0_232 ?_
  refine s0_233 ?_
  refine s0_237 rfl ?_
  refine s0_239 ?_
  exact s0_241 rfl
set_option maxHeartbeats 4000000 in
theorem own_c220110 (s t : Int32) {m : Nat} : W0 ⟨5, 26, 226, 128⟩ 94 [.val (.int s), .val (.int t), .val (.int 2), .val (.int 2), .val (.int 0), .val (.int 1), .val (.int 1), .val (.int 0), .val (.ref 0), .unset, .unset] [] [(.inl (0, [.ref 1, .ref 2, .ref 3, .ref 4, .ref 5]) : ACell), (.inr (.int, own_a 0 0) : ACell), (.inr (.int, own_a 0 0) : ACell), (.inr (.int, own_b m 0 0 0 0) : ACell), (.inr (.int, own_b m 0 0 0 0) : ACell), (.inr (.int, own_b m 0 0 0 0) : ACell)] (fun r _ => r = some (.int 1)) := by
  refine s0_94 ?_
  refine s0_96 ?_
  refine s0_97 ?_
  refine s0_98 rfl (own_r0) rfl ?_
  refine s0_101 ?_
  refine s0_103 ?_
  refine s0_104 ?_
  refine s0_105 rfl (own_r88) rfl ?_
  refine s0_108 ?_
  refine s0_110 ?_
  refine s0_111 ?_
  refine s0_112 rfl (own_r148) rfl ?_
  refine s0_115 ?_
  refine s0_117 (fun h => absurd h (by decide)) (fun _ => ?_)
  refine s0_120 ?_
  refine s0_122 ?_
  refine s0_123 rfl (own_r153) rfl ?_
  refine s0_126 ?_
  refine s0_128 (fun _ => ?_) (fun h => absurd h (by decide))
  refine s0_137 ?_
  refine s0_139 (fun h => absurd h (by decide)) (fun _ => ?_)
  refine s0_142 ?_
  refine s0_144 ?_
  refine s0_145 rfl (own_r163) rfl ?_
  refine s0_148 ?_
  refine s0_150 (fun _ => ?_) (fun h => absurd h (by decide))
  refine s0_160 ?_
  refine s0_162 ?_
  refine s0_163 rfl (own_r164) rfl ?_
  refine s0_166 ?_
  refine s0_167 ?_
  refine s0_168 ?_
  refine s0_169 ?_
  refine s0_171 ?_
  refine s0_173 ?_
  refine s0_175 ?_
  refine s0_177 (own_r165) rfl ?_
  refine s0_180 rfl ?_
  refine s0_182 ?_
  refine s0_183 ?_
  refine s0_184 (fun _ => ?_) (fun h => absurd h (by decide))
  refine s0_192 ?_
  refine s0_193 ?_
  refine s0_197 rfl ?_
  refine s0_199 ?_
  refine s0_201 (fun h => absurd h (by decide)) (fun _ => ?_)
  refine s0_204 ?_
  refine s0_206 (fun h => absurd h (by decide)) (fun _ => ?_)
  refine s0_209 ?_
  refine s0_211 ?_
  refine s0_212 rfl (own_r166) rfl ?_
  refine s0_215 ?_
  refine s0_216 ?_
  refine s0_217 ?_
  refine s0_218 ?_
  refine s0_220 ?_
  refine s0_222 ?_
  refine s0_224 ?_
  refine s0_226 (own_r167) rfl ?_
  refine s0_229 (fun h => absurd h (by decide)) (fun _ => ?_)
  refine s0_232 ?_
  refine s0_233 ?_
  refine s0_237 rfl ?_
  refine s0_239 ?_
  exact s0_241 rfl
set_option maxHeartbeats 4000000 in
theorem own_c220101 (s t : Int32) {m : Nat} : W0 ⟨5, 26, 226, 128⟩ 94 [.val (.int s), .val (.int t), .val (.int 2), .val (.int 2), .val (.int 0), .val (.int 1), .val (.int 0), .val (.int 1), .val (.ref 0), .unset, .unset] [] [(.inl (0, [.ref 1, .ref 2, .ref 3, .ref 4, .ref 5]) : ACell), (.inr (.int, own_a 0 0) : ACell), (.inr (.int, own_a 0 0) : ACell), (.inr (.int, own_b m 0 0 0 0) : ACell), (.inr (.int, own_b m 0 0 0 0) : ACell), (.inr (.int, own_b m 0 0 0 0) : ACell)] (fun r _ => r = some (.int 1)) := by
  refine s0_94 ?_
  refine s0_96 ?_
  refine s0_97 ?_
  refine s0_98 rfl (own_r0) rfl ?_
  refine s0_101 ?_
  refine s0_103 ?_
  refine s0_104 ?_
  refine s0_105 rfl (own_r88) rfl ?_
  refine s0_108 ?_
  refine s0_110 ?_
  refine s0_111 ?_
  refine s0_112 rfl (own_r148) rfl ?_
  refine s0_115 ?_
  refine s0_117 (fun _ => ?_) (fun h => absurd h (by decide))
  refine s0_126 ?_
  refine s0_128 (fun _ => ?_) (fun h => absurd h (by decide))
  refine s0_137 ?_
  refine s0_139 (fun h => absurd h (by decide)) (fun _ => ?_)
  refine s0_142 ?_
  refine s0_144 ?_
  refine s0_145 rfl (own_r158) rfl ?_
  refine s0_148 ?_
  refine s0_150 (fun h => absurd h (by decide)) (fun _ => ?_)
  refine s0_153 ?_
  refine s0_155 ?_
  refine s0_156 ?_
  refine s0_157 rfl (own_r168) rfl ?_
  refine s0_160 ?_
  refine s0_162 ?_
  refine s0_163 rfl (own_r37) rfl ?_
  refine s0_166 ?_
  refine s0_167 ?_
  refine s0_168 ?_
  refine s0_169 ?_
  refine s0_171 ?_
  refine s0_173 ?_
  refine s0_175 ?_
  refine s0_177 (own_r169) rfl ?_
  refine s0_180 rfl ?_
  refine s0_182 ?_
  refine s0_183 ?_
  refine s0_184 (fun _ => ?_) (fun h => absurd h (by decide))
  refine s0_192 ?_
  refine s0_193 ?_
  refine s0_197 rfl ?_
  refine s0_199 ?_
  refine s0_201 (fun h => absurd h (by decide)) (fun _ => ?_)
  refine s0_204 ?_
  refine s0_206 (fun h => absurd h (by decide)) (fun _ => ?_)
  refine s0_209 ?_
  refine s0_211 ?_
  refine s0_212 rfl (own_r39) rfl ?_
  refine s0_215 ?_
  refine s0_216 ?_
  refine s0_217 ?_
  refine s0_218 ?_
  refine s0_220 ?_
  refine s0_222 ?_
  refine s0_224 ?_
  refine s0_226 (own_r170) rfl ?_
  refine s0_229 (fun h => absurd h (by decide)) (fun _ => ?_)
  refine s0_232 ?_
  refine s0_233 ?_
  refine s0_237 rfl ?_
  refine s0_239 ?_
  exact s0_241 rfl
set_option maxHeartbeats 4000000 in
theorem own_c220111 (s t : Int32) {m : Nat} : W0 ⟨5, 26, 226, 128⟩ 94 [.val (.int s), .val (.int t), .val (.int 2), .val (.int 2), .val (.int 0), .val (.int 1), .val (.int 1), .val (.int 1), .val (.ref 0), .unset, .unset] [] [(.inl (0, [.ref 1, .ref 2, .ref 3, .ref 4, .ref 5]) : ACell), (.inr (.int, own_a 0 0) : ACell), (.inr (.int, own_a 0 0) : ACell), (.inr (.int, own_b m 0 0 0 0) : ACell), (.inr (.int, own_b m 0 0 0 0) : ACell), (.inr (.int, own_b m 0 0 0 0) : ACell)] (fun r _ => r = some (.int 1)) := by
  refine s0_94 ?_
  refine s0_96 ?_
  refine s0_97 ?_
  refine s0_98 rfl (own_r0) rfl ?_
  refine s0_101 ?_
  refine s0_103 ?_
  refine s0_104 ?_
  refine s0_105 rfl (own_r88) rfl ?_
  refine s0_108 ?_
  refine s0_110 ?_
  refine s0_111 ?_
  refine s0_112 rfl (own_r148) rfl ?_
  refine s0_115 ?_
  refine s0_117 (fun h => absurd h (by decide)) (fun _ => ?_)
  refine s0_120 ?_
  refine s0_122 ?_
  refine s0_123 rfl (own_r153) rfl ?_
  refine s0_126 ?_
  refine s0_128 (fun _ => ?_) (fun h => absurd h (by decide))
  refine s0_137 ?_
  refine s0_139 (fun h => absurd h (by decide)) (fun _ => ?_)
  refine s0_142 ?_
  refine s0_144 ?_
  refine s0_145 rfl (own_r163) rfl ?_
  refine s0_148 ?_
  refine s0_150 (fun h => absurd h (by decide)) (fun _ => ?_)
  refine s0_153 ?_
  refine s0_155 ?_
  refine s0_156 ?_
  refine s0_157 rfl (own_r171) rfl ?_
  refine s0_160 ?_
  refine s0_162 ?_
  refine s0_163 rfl (own_r6) rfl ?_
  refine s0_166 ?_
  refine s0_167 ?_
  refine s0_168 ?_
  refine s0_169 ?_
  refine s0_171 ?_
  refine s0_173 ?_
  refine s0_175 ?_
  refine s0_177 (own_r172) rfl ?_
  refine s0_180 rfl ?_
  refine s0_182 ?_
  refine s0_183 ?_
  refine s0_184 (fun _ => ?_) (fun h => absurd h (by decide))
  refine s0_192 ?_
  refine s0_193 ?_
  refine s0_197 rfl ?_
  refine s0_199 ?_
  refine s0_201 (fun h => absurd h (by decide)) (fun _ => ?_)
  refine s0_204 ?_
  refine s0_206 (fun h => absurd h (by decide)) (fun _ => ?_)
  refine s0_209 ?_
  refine s0_211 ?_
  refine s0_212 rfl (own_r173) rfl ?_
  refine s0_215 ?_
  refine s0_216 ?_
  refine s0_217 ?_
  refine s0_218 ?_
  refine s0_220 ?_
  refine s0_222 ?_
  refine s0_224 ?_
  refine s0_226 (own_r174) rfl ?_
  refine s0_229 (fun h => absurd h (by decide)) (fun _ => ?_)
  refine s0_232 ?_
  refine s0_233 ?_
  refine s0_237 rfl ?_
  refine s0_239 ?_
  exact s0_241 rfl
set_option maxHeartbeats 4000000 in
theorem own_c221000 (s t : Int32) {m : Nat} : W0 ⟨5, 26, 226, 128⟩ 94 [.val (.int s), .val (.int t), .val (.int 2), .val (.int 2), .val (.int 1), .val (.int 0), .val (.int 0), .val (.int 0), .val (.ref 0), .unset, .unset] [] [(.inl (0, [.ref 1, .ref 2, .ref 3, .ref 4, .ref 5]) : ACell), (.inr (.int, own_a 0 0) : ACell), (.inr (.int, own_a 0 0) : ACell), (.inr (.int, own_b m 0 0 0 0) : ACell), (.inr (.int, own_b m 0 0 0 0) : ACell), (.inr (.int, own_b m 0 0 0 0) : ACell)] (fun r _ => r = some (.int 1)) := by
  refine s0_94 ?_
  refine s0_96 ?_
  refine s0_97 ?_
  refine s0_98 rfl (own_r0) rfl ?_
  refine s0_101 ?_
  refine s0_103 ?_
  refine s0_104 ?_
  refine s0_105 rfl (own_r88) rfl ?_
  refine s0_108 ?_
  refine s0_110 ?_
  refine s0_111 ?_
  refine s0_112 rfl (own_r148) rfl ?_
  refine s0_115 ?_
  refine s0_117 (fun _ => ?_) (fun h => absurd h (by decide))
  refine s0_126 ?_
  refine s0_128 (fun h => absurd h (by decide)) (fun _ => ?_)
  refine s0_131 ?_
  refine s0_133 ?_
  refine s0_134 rfl (own_r175) rfl ?_
  refine s0_137 ?_
  refine s0_139 (fun _ => ?_) (fun h => absurd h (by decide))
  refine s0_148 ?_
  refine s0_150 (fun _ => ?_) (fun h => absurd h (by decide))
  refine s0_160 ?_
  refine s0_162 ?_
  refine s0_163 rfl (own_r176) rfl ?_
  refine s0_166 ?_
  refine s0_167 ?_
  refine s0_168 ?_
  refine s0_169 ?_
  refine s0_171 ?_
  refine s0_173 ?_
  refine s0_175 ?_
  refine s0_177 (own_r177) rfl ?_
  refine s0_180 rfl ?_
  refine s0_182 ?_
  refine s0_183 ?_
  refine s0_184 (fun _ => ?_) (fun h => absurd h (by decide))
  refine s0_192 ?_
  refine s0_193 ?_
  refine s0_197 rfl ?_
  refine s0_199 ?_
  refine s0_201 (fun h => absurd h (by decide)) (fun _ => ?_)
  refine s0_204 ?_
  refine s0_206 (fun h => absurd h (by decide)) (fun _ => ?_)
  refine s0_209 ?_
  refine s0_211 ?_
  refine s0_212 rfl (own_r178) rfl ?_
  refine s0_215 ?_
  refine s0_216 ?_
  refine s0_217 ?_
  refine s0_218 ?_
  refine s0_220 ?_
  refine s0_222 ?_
  refine s0_224 ?_
  refine s0_226 (own_r179) rfl ?_
  refine s0_229 (fun h => absurd h (by decide)) (fun _ => ?_)
  refine s0_232 ?_
  refine s0_233 ?_
  refine s0_237 rfl ?_
  refine s0_239 ?_
  exact s0_241 rfl
set_option maxHeartbeats 4000000 in
theorem own_c221010 (s t : Int32) {m : Nat} : W0 ⟨5, 26, 226, 128⟩ 94 [.val (.int s), .val (.int t), .val (.int 2), .val (.int 2), .val (.int 1), .val (.int 0), .val (.int 1), .val (.int 0), .val (.ref 0), .unset, .unset] [] [(.inl (0, [.ref 1, .ref 2, .ref 3, .ref 4, .ref 5]) : ACell), (.inr (.int, own_a 0 0) : ACell), (.inr (.int, own_a 0 0) : ACell), (.inr (.int, own_b m 0 0 0 0) : ACell), (.inr (.int, own_b m 0 0 0 0) : ACell), (.inr (.int, own_b m 0 0 0 0) : ACell)] (fun r _ => r = some (.int 1)) := by
  refine s0_94 ?_
  refine s0_96 ?_
  refine s0_97 ?_
  refine s0_98 rfl (own_r0) rfl ?_
  refine s0_101 ?_
  refine s0_103 ?_
  refine s0_104 ?_
  refine s0_105 rfl (own_r88) rfl ?_
  refine s0_108 ?_
  refine s0_110 ?_
  refine s0_111 ?_
  refine s0_112 rfl (own_r148) rfl ?_
  refine s0_115 ?_
  refine s0_117 (fun h => absurd h (by decide)) (fun _ => ?_)
  refine s0_120 ?_
  refine s0_122 ?_
  refine s0_123 rfl (own_r153) rfl ?_
  refine s0_126 ?_
  refine s0_128 (fun h => absurd h (by decide)) (fun _ => ?_)
  refine s0_131 ?_
  refine s0_133 ?_
  refine s0_134 rfl (own_r180) rfl ?_
  refine s0_137 ?_
  refine s0_139 (fun _ => ?_) (fun h => absurd h (by decide))
  refine s0_148 ?_
  refine s0_150 (fun _ => ?_) (fun h => absurd h (by decide))
  refine s0_160 ?_
  refine s0_162 ?_
  refine s0_163 rfl (own_r181) rfl ?_
  refine s0_166 ?_
  refine s0_167 ?_
  refine s0_168 ?_
  refine s0_169 ?_
  refine s0_171 ?_
  refine s0_173 ?_
  refine s0_175 ?_
  refine s0_177 (own_r182) rfl ?_
  refine s0_180 rfl ?_
  refine s0_182 ?_
  refine s0_183 ?_
  refine s0_184 (fun _ => ?_) (fun h => absurd h (by decide))
  refine s0_192 ?_
  refine s0_193 ?_
  refine s0_197 rfl ?_
  refine s0_199 ?_
  refine s0_201 (fun h => absurd h (by decide)) (fun _ => ?_)
  refine s0_204 ?_
  refine s0_206 (fun h => absurd h (by decide)) (fun _ => ?_)
  refine s0_209 ?_
  refine s0_211 ?_
  refine s0_212 rfl (own_r183) rfl ?_
  refine s0_215 ?_
  refine s0_216 ?_
  refine s0_217 ?_
  refine s0_218 ?_
  refine s0_220 ?_
  refine s0_222 ?_
  refine s0_224 ?_
  refine s0_226 (own_r184) rfl ?_
  refine s0_229 (fun h => absurd h (by decide)) (fun _ => ?_)
  refine s0_232 ?_
  refine s0_233 ?_
  refine s0_237 rfl ?_
  refine s0_239 ?_
  exact s0_241 rfl
set_option maxHeartbeats 4000000 in
theorem own_c221100 (s t : Int32) {m : Nat} : W0 ⟨5, 26, 226, 128⟩ 94 [.val (.int s), .val (.int t), .val (.int 2), .val (.int 2), .val (.int 1), .val (.int 1), .val (.int 0), .val (.int 0), .val (.ref 0), .unset, .unset] [] [(.inl (0, [.ref 1, .ref 2, .ref 3, .ref 4, .ref 5]) : ACell), (.inr (.int, own_a 0 0) : ACell), (.inr (.int, own_a 0 0) : ACell), (.inr (.int, own_b m 0 0 0 0) : ACell), (.inr (.int, own_b m 0 0 0 0) : ACell), (.inr (.int, own_b m 0 0 0 0) : ACell)] (fun r _ => r = some (.int 1)) := by
  refine s0_94 ?_
  refine s0_96 ?_
  refine s0_97 ?_
  refine s0_98 rfl (own_r0) rfl ?_
  refine s0_101 ?_
  refine s0_103 ?_
  refine s0_104 ?_
  refine s0_105 rfl (own_r88) rfl ?_
  refine s0_108 ?_
  refine s0_110 ?_
  refine s0_111 ?_
  refine s0_112 rfl (own_r148) rfl ?_
  refine s0_115 ?_
  refine s0_117 (fun _ => ?_) (fun h => absurd h (by decide))
  refine s0_126 ?_
  refine s0_128 (fun h => absurd h (by decide)) (fun _ => ?_)
  refine s0_131 ?_
  refine s0_133 ?_
  refine s0_134 rfl (own_r175) rfl ?_
  refine s0_137 ?_
  refine s0_139 (fun h => absurd h (by decide)) (fun _ => ?_)
  refine s0_142 ?_
  refine s0_144 ?_
  refine s0_145 rfl (own_r185) rfl ?_
  refine s0_148 ?_
  refine s0_150 (fun _ => ?_) (fun h => absurd h (by decide))
  refine s0_160 ?_
  refine s0_162 ?_
  refine s0_163 rfl (own_r186) rfl ?_
  refine s0_166 ?_
  refine s0_167 ?_
  refine s0_168 ?_
  refine s0_169 ?_
  refine s0_171 ?_
  refine s0_173 ?_
  refine s0_175 ?_
  refine s0_177 (own_r187) rfl ?_
  refine s0_180 rfl ?_
  refine s0_182 ?_
  refine s0_183 ?_
  refine s0_184 (fun _ => ?_) (fun h => absurd h (by decide))
  refine s0_192 ?_
  refine s0_193 ?_
  refine s0_197 rfl ?_
  refine s0_199 ?_
  refine s0_201 (fun h => absurd h (by decide)) (fun _ => ?_)
  refine s0_204 ?_
  refine s0_206 (fun h => absurd h (by decide)) (fun _ => ?_)
  refine s0_209 ?_
  refine s0_211 ?_
  refine s0_212 rfl (own_r188) rfl ?_
  refine s0_215 ?_
  refine s0_216 ?_
  refine s0_217 ?_
  refine s0_218 ?_
  refine s0_220 ?_
  refine s0_222 ?_
  refine s0_224 ?_
  refine s0_226 (own_r189) rfl ?_
  refine s0_229 (fun h => absurd h (by decide)) (fun _ => ?_)
  refine s0_232 ?_
  refine s0_233 ?_
  refine s0_237 rfl ?_
  refine s0_239 ?_
  exact s0_241 rfl
set_option maxHeartbeats 4000000 in
theorem own_c221110 (s t : Int32) {m : Nat} : W0 ⟨5, 26, 226, 128⟩ 94 [.val (.int s), .val (.int t), .val (.int 2), .val (.int 2), .val (.int 1), .val (.int 1), .val (.int 1), .val (.int 0), .val (.ref 0), .unset, .unset] [] [(.inl (0, [.ref 1, .ref 2, .ref 3, .ref 4, .ref 5]) : ACell), (.inr (.int, own_a 0 0) : ACell), (.inr (.int, own_a 0 0) : ACell), (.inr (.int, own_b m 0 0 0 0) : ACell), (.inr (.int, own_b m 0 0 0 0) : ACell), (.inr (.int, own_b m 0 0 0 0) : ACell)] (fun r _ => r = some (.int 1)) := by
  refine s0_94 ?_
  refine s0_96 ?_
  refine s0_97 ?_
  refine s0_98 rfl (own_r0) rfl ?_
  refine s0_101 ?_
  refine s0_103 ?_
  refine s0_104 ?_
  refine s0_105 rfl (own_r88) rfl ?_
  refine s0_108 ?_
  refine s0_110 ?_
  refine s0_111 ?_
  refine s0_112 rfl (own_r148) rfl ?_
  refine s0_115 ?_
  refine s0_117 (fun h => absurd h (by decide)) (fun _ => ?_)
  refine s0_120 ?_
  refine s0_122 ?_
  refine s0_123 rfl (own_r153) rfl ?_
  refine s0_126 ?_
  refine s0_128 (fun h => absurd h (by decide)) (fun _ => ?_)
  refine s0_131 ?_
  refine s0_133 ?_
  refine s0_134 rfl (own_r180) rfl ?_
  refine s0_137 ?_
  refine s0_139 (fun h => absurd h (by decide)) (fun _ => ?_)
  refine s0_142 ?_
  refine s0_144 ?_
  refine s0_145 rfl (own_r190) rfl ?_
  refine s0_148 ?_
  refine s0_150 (fun _ => ?_) (fun h => absurd h (by decide))
  refine s0_160 ?_
  refine s0_162 ?_
  refine s0_163 rfl (own_r191) rfl ?_
  refine s0_166 ?_
  refine s0_167 ?_
  refine s0_168 ?_
  refine s0_169 ?_
  refine s0_171 ?_
  refine s0_173 ?_
  refine s0_175 ?_
  refine s0_177 (own_r192) rfl ?_
  refine s0_180 rfl ?_
  refine s0_182 ?_
  refine s0_183 ?_
  refine s0_184 (fun _ => ?_) (fun h => absurd h (by decide))
  refine s0_192 ?_
  refine s0_193 ?_
  refine s0_197 rfl ?_
  refine s0_199 ?_
  refine s0_201 (fun h => absurd h (by decide)) (fun _ => ?_)
  refine s0_204 ?_
  refine s0_206 (fun h => absurd h (by decide)) (fun _ => ?_)
  refine s0_209 ?_
  refine s0_211 ?_
  refine s0_212 rfl (own_r193) rfl ?_
  refine s0_215 ?_
  refine s0_216 ?_
  refine s0_217 ?_
  refine s0_218 ?_
  refine s0_220 ?_
  refine s0_222 ?_
  refine s0_224 ?_
  refine s0_226 (own_r194) rfl ?_
  refine s0_229 (fun h => absurd h (by decide)) (fun _ => ?_)
  refine s0_232 ?_
  refine s0_233 ?_
  refine s0_237 rfl ?_
  refine s0_239 ?_
  exact s0_241 rfl
set_option maxHeartbeats 4000000 in
theorem own_c221101 (s t : Int32) {m : Nat} : W0 ⟨5, 26, 226, 128⟩ 94 [.val (.int s), .val (.int t), .val (.int 2), .val (.int 2), .val (.int 1), .val (.int 1), .val (.int 0), .val (.int 1), .val (.ref 0), .unset, .unset] [] [(.inl (0, [.ref 1, .ref 2, .ref 3, .ref 4, .ref 5]) : ACell), (.inr (.int, own_a 0 0) : ACell), (.inr (.int, own_a 0 0) : ACell), (.inr (.int, own_b m 0 0 0 0) : ACell), (.inr (.int, own_b m 0 0 0 0) : ACell), (.inr (.int, own_b m 0 0 0 0) : ACell)] (fun r _ => r = some (.int 1)) := by
  refine s0_94 ?_
  refine s0_96 ?_
  refine s0_97 ?_
  refine s0_98 rfl (own_r0) rfl ?_
  refine s0_101 ?_
  refine s0_103 ?_
  refine s0_104 ?_
  refine s0_105 rfl (own_r88) rfl ?_
  refine s0_108 ?_
  refine s0_110 ?_
  refine s0_111 ?_
  refine s0_112 rfl (own_r148) rfl ?_
  refine s0_115 ?_
  refine s0_117 (fun _ => ?_) (fun h => absurd h (by decide))
  refine s0_126 ?_
  refine s0_128 (fun h => absurd h (by decide)) (fun _ => ?_)
  refine s0_131 ?_
  refine s0_133 ?_
  refine s0_134 rfl (own_r175) rfl ?_
  refine s0_137 ?_
  refine s0_139 (fun h => absurd h (by decide)) (fun _ => ?_)
  refine s0_142 ?_
  refine s0_144 ?_
  refine s0_145 rfl (own_r185) rfl ?_
  refine s0_148 ?_
  refine s0_150 (fun h => absurd h (by decide)) (fun _ => ?_)
  refine s0_153 ?_
  refine s0_155 ?_
  refine s0_156 ?_
  refine s0_157 rfl (own_r195) rfl ?_
  refine s0_160 ?_
  refine s0_162 ?_
  refine s0_163 rfl (own_r196) rfl ?_
  refine s0_166 ?_
  refine s0_167 ?_
  refine s0_168 ?_
  refine s0_169 ?_
  refine s0_171 ?_
  refine s0_173 ?_
  refine s0_175 ?_
  refine s0_177 (own_r197) rfl ?_
  refine s0_180 rfl ?_
  refine s0_182 ?_
  refine s0_183 ?_
  refine s0_184 (fun _ => ?_) (fun h => absurd h (by decide))
  refine s0_192 ?_
  refine s0_193 ?_
  refine s0_197 rfl ?_
  refine s0_199 ?_
  refine s0_201 (fun h => absurd h (by decide)) (fun _ => ?_)
  refine s0_204 ?_
  refine s0_206 (fun h => absurd h (by decide)) (fun _ => ?_)
  refine s0_209 ?_
  refine s0_211 ?_
  refine s0_212 rfl (own_r198) rfl ?_
  refine s0_215 ?_
  refine s0_216 ?_
  refine s0_217 ?_
  refine s0_218 ?_
  refine s0_220 ?_
  refine s0_222 ?_
  refine s0_224 ?_
  refine s0_226 (own_r199) rfl ?_
  refine s0_229 (fun h => absurd h (by decide)) (fun _ => ?_)
  refine s0_232 ?_
  refine s0_233 ?_
  refine s0_237 rfl ?_
  refine s0_239 ?_
  exact s0_241 rfl
set_option maxHeartbeats 4000000 in
theorem own_c221111 (s t : Int32) {m : Nat} : W0 ⟨5, 26, 226, 128⟩ 94 [.val (.int s), .val (.int t), .val (.int 2), .val (.int 2), .val (.int 1), .val (.int 1), .val (.int 1), .val (.int 1), .val (.ref 0), .unset, .unset] [] [(.inl (0, [.ref 1, .ref 2, .ref 3, .ref 4, .ref 5]) : ACell), (.inr (.int, own_a 0 0) : ACell), (.inr (.int, own_a 0 0) : ACell), (.inr (.int, own_b m 0 0 0 0) : ACell), (.inr (.int, own_b m 0 0 0 0) : ACell), (.inr (.int, own_b m 0 0 0 0) : ACell)] (fun r _ => r = some (.int 1)) := by
  refine s0_94 ?_
  refine s0_96 ?_
  refine s0_97 ?_
  refine s0_98 rfl (own_r0) rfl ?_
  refine s0_101 ?_
  refine s0_103 ?_
  refine s0_104 ?_
  refine s0_105 rfl (own_r88) rfl ?_
  refine s0_108 ?_
  refine s0_110 ?_
  refine s0_111 ?_
  refine s0_112 rfl (own_r148) rfl ?_
  refine s0_115 ?_
  refine s0_117 (fun h => absurd h (by decide)) (fun _ => ?_)
  refine s0_120 ?_
  refine s0_122 ?_
  refine s0_123 rfl (own_r153) rfl ?_
  refine s0_126 ?_
  refine s0_128 (fun h => absurd h (by decide)) (fun _ => ?_)
  refine s0_131 ?_
  refine s0_133 ?_
  refine s0_134 rfl (own_r180) rfl ?_
  refine s0_137 ?_
  refine s0_139 (fun h => absurd h (by decide)) (fun _ => ?_)
  refine s0_142 ?_
  refine s0_144 ?_
  refine s0_145 rfl (own_r190) rfl ?_
  refine s0_148 ?_
  refine s0_150 (fun h => absurd h (by decide)) (fun _ => ?_)
  refine s0_153 ?_
  refine s0_155 ?_
  refine s0_156 ?_
  refine s0_157 rfl (own_r200) rfl ?_
  refine s0_160 ?_
  refine s0_162 ?_
  refine s0_163 rfl (own_r201) rfl ?_
  refine s0_166 ?_
  refine s0_167 ?_
  refine s0_168 ?_
  refine s0_169 ?_
  refine s0_171 ?_
  refine s0_173 ?_
  refine s0_175 ?_
  refine s0_177 (own_r202) rfl ?_
  refine s0_180 rfl ?_
  refine s0_182 ?_
  refine s0_183 ?_
  refine s0_184 (fun _ => ?_) (fun h => absurd h (by decide))
  refine s0_192 ?_
  refine s0_193 ?_
  refine s0_197 rfl ?_
  refine s0_199 ?_
  refine s0_201 (fun h => absurd h (by decide)) (fun _ => ?_)
  refine s0_204 ?_
  refine s0_206 (fun h => absurd h (by decide)) (fun _ => ?_)
  refine s0_209 ?_
  refine s0_211 ?_
  refine s0_212 rfl (own_r203) rfl ?_
  refine s0_215 ?_
  refine s0_216 ?_
  refine s0_217 ?_
  refine s0_218 ?_
  refine s0_220 ?_
  refine s0_222 ?_
  refine s0_224 ?_
  refine s0_226 (own_r204) rfl ?_
  refine s0_229 (fun h => absurd h (by decide)) (fun _ => ?_)
  refine s0_232 ?_
  refine s0_233 ?_
  refine s0_237 rfl ?_
  refine s0_239 ?_
  exact s0_241 rfl
set_option maxHeartbeats 4000000 in
theorem own_all (s t b1 b2 r0 r1 r2 back : Int32) (m : Nat) (h1 : b1 = 1 ∨ b1 = 2) (h2 : b2 = 1 ∨ b2 = 2) (h3 : r0 = 0 ∨ r0 = 1) (h4 : r1 = 0 ∧ back = 0 ∨ r1 = 1 ∧ (back = 0 ∨ back = 1)) (h5 : r2 = 0 ∨ r2 = 1) :
    W0 ⟨5, 26, 226, 128⟩ 94 [.val (.int s), .val (.int t), .val (.int b1), .val (.int b2), .val (.int r0), .val (.int r1), .val (.int r2), .val (.int back), .val (.ref 0), .unset, .unset] [] [(.inl (0, [.ref 1, .ref 2, .ref 3, .ref 4, .ref 5]) : ACell), (.inr (.int, own_a 0 0) : ACell), (.inr (.int, own_a 0 0) : ACell), (.inr (.int, own_b m 0 0 0 0) : ACell), (.inr (.int, own_b m 0 0 0 0) : ACell), (.inr (.int, own_b m 0 0 0 0) : ACell)] (fun r _ => r = some (.int 1)) := by
  rcases h1 with rfl | rfl <;> rcases h2 with rfl | rfl <;> rcases h3 with rfl | rfl <;> rcases h4 with ⟨rfl, rfl⟩ | ⟨rfl, rfl | rfl⟩ <;> rcases h5 with rfl | rfl
  · exact own_c110000 s t
  · exact own_c110010 s t
  · exact own_c110100 s t
  · exact own_c110110 s t
  · exact own_c110101 s t
  · exact own_c110111 s t
  · exact own_c111000 s t
  · exact own_c111010 s t
  · exact own_c111100 s t
  · exact own_c111110 s t
  · exact own_c111101 s t
  · exact own_c111111 s t
  · exact own_c120000 s t
  · exact own_c120010 s t
  · exact own_c120100 s t
  · exact own_c120110 s t
  · exact own_c120101 s t
  · exact own_c120111 s t
  · exact own_c121000 s t
  · exact own_c121010 s t
  · exact own_c121100 s t
  · exact own_c121110 s t
  · exact own_c121101 s t
  · exact own_c121111 s t
  · exact own_c210000 s t
  · exact own_c210010 s t
  · exact own_c210100 s t
  · exact own_c210110 s t
  · exact own_c210101 s t
  · exact own_c210111 s t
  · exact own_c211000 s t
  · exact own_c211010 s t
  · exact own_c211100 s t
  · exact own_c211110 s t
  · exact own_c211101 s t
  · exact own_c211111 s t
  · exact own_c220000 s t
  · exact own_c220010 s t
  · exact own_c220100 s t
  · exact own_c220110 s t
  · exact own_c220101 s t
  · exact own_c220111 s t
  · exact own_c221000 s t
  · exact own_c221010 s t
  · exact own_c221100 s t
  · exact own_c221110 s t
  · exact own_c221101 s t
  · exact own_c221111 s t
theorem own_01 {P P' : Prop} {t : Int32} (h : P ∧ t = 1 ∨ P' ∧ t = 0) : t = 0 ∨ t = 1 := by rcases h with ⟨-, h⟩ | ⟨-, h⟩; exact Or.inr h; exact Or.inl h
set_option maxHeartbeats 4000000 in
theorem law_ok (s t : Int32) : M0 room_1 [.int s, .int t] [] (fun r _ => r = some (.int 1)) := by
  refine e0 ?_
  refine s0_0 ?_
  refine s0_1 ?_
  refine s0_2 ?_
  refine s0_3 ?_
  have q1 : 1 + (s &&& 1) = 1 ∨ 1 + (s &&& 1) = 2 := by rcases own_bit s with h | h <;> rw [h]; exact Or.inl rfl; exact Or.inr rfl
  refine s0_4 ?_
  generalize 1 + (s &&& 1) = b1 at q1
  refine s0_5 rfl ?_
  refine s0_6 ?_
  refine s0_7 ?_
  refine s0_8 ?_
  refine s0_9 ?_
  refine s0_10 ?_
  refine s0_11 ?_
  have q2 : 1 + (XT.ushr s 1 &&& 1) = 1 ∨ 1 + (XT.ushr s 1 &&& 1) = 2 := by rcases own_bit (XT.ushr s 1) with h | h <;> rw [h]; exact Or.inl rfl; exact Or.inr rfl
  refine s0_12 ?_
  generalize 1 + (XT.ushr s 1 &&& 1) = b2 at q2
  refine s0_13 rfl ?_
  refine s0_14 ?_
  refine s0_15 ?_
  refine s0_16 ?_
  refine s0_17 ?_
  refine s0_18 ?_
  refine b0_19 (fun r0 hr0 => ?_)
  refine s0_27 rfl ?_
  refine s0_29 ?_
  refine s0_30 ?_
  refine s0_31 ?_
  refine s0_32 ?_
  refine s0_33 ?_
  refine b0_34 (fun r1 hr1 => ?_)
  refine s0_42 rfl ?_
  refine s0_44 ?_
  refine s0_45 ?_
  refine s0_46 ?_
  refine s0_47 ?_
  refine s0_48 ?_
  refine b0_49 (fun r2 hr2 => ?_)
  refine s0_57 rfl ?_
  refine s0_59 ?_
  have k0 := own_01 hr0; have k1 := own_01 hr1; have k2 := own_01 hr2
  have fin : ∀ back : Int32, (r1 = 0 ∧ back = 0 ∨ r1 = 1 ∧ (back = 0 ∨ back = 1)) → W0 room_1 77 [.val (.int s), .val (.int t), .val (.int b1), .val (.int b2), .val (.int r0), .val (.int r1), .val (.int r2), .unset, .unset, .unset, .unset] [.int back] [] (fun r _ => r = some (.int 1)) := fun back hb => by
    refine s0_77 rfl ?_
    refine s0_79 0 rfl rfl ?_
    refine s0_82 rfl ?_
    refine s0_83 ?_
    refine s0_84 ?_
    refine s0_85 ?_
    refine s0_87 ?_
    obtain ⟨m, hm, e⟩ := own_size t
    refine s0_88 ?_
    rw [e]
    refine s0_89 (own_ctor m hm) rfl ?_
    refine s0_92 rfl ?_
    exact own_all s t b1 b2 r0 r1 r2 back m q1 q2 k0 hb k2
  refine s0_61 (fun h => s0_76 (fin 0 (Or.inl ⟨h, rfl⟩))) (fun h => ?_)
  have e1 : r1 = 1 := by rcases k1 with q | q; exact absurd q h; exact q
  refine s0_64 ?_
  refine s0_65 ?_
  refine s0_66 ?_
  refine s0_67 ?_
  refine s0_68 ?_
  refine b0_69 (fun back hb => fin back (Or.inr ⟨e1, own_01 hb⟩))
set_option maxRecDepth 65536 in
set_option maxHeartbeats 4000000 in
theorem comes_1 {Post : Tables → Env → Array Value → State → Outcome → State → Prop} (hpost : ∀ tb e args s v u, (limb_1_1.after args s (.returned v) u = true ∧ limb_1_2.after args s (.returned v) u = true ∧ True) → FrameEnd s (.returned v) u (Jvm.fieldLocs frame_1_writes args s ++ Jvm.arrayLocs frame_1_arrays args s ++ Jvm.staticLocs frame_1_statics s) 32 320 → Post tb e args s (.returned v) u) :
    ArmFor flags0 classFile x code maxLocals ret World_1 tables_1 room_1 Calls_1 rest_1 Pre_1 Post := by
  intro l hfl _ _ p e ha hc hk s m args below hf hA hF happ hP
  obtain ⟨hcalls, hrest, hpre⟩ := hP
  obtain ⟨-, -, -, hnamed, -, -, -, hat⟩ := (Spec.applies_iff hf).mp happ
  obtain ⟨hg, hn⟩ := and_e (Cond.before_iff.mp (show (Jvm.Cond.and given_1 narrow_1).before args s = true from hpre))
  obtain ⟨hg0, hg⟩ := and_e hg
  obtain ⟨hk0, hg⟩ := and_e hg
  have hk1 := hg
  obtain ⟨w0, w1, rfl⟩ : ∃ w0 w1 : Value, args = #[w0, w1] := by
    have hs : args.size = 2 := by simpa [Cond.value, given_1] using hg0
    obtain ⟨L⟩ := args
    match L, hs with
    | [w0, w1], _ => exact ⟨w0, w1, rfl⟩
  have hw := fun d (hd : d ∈ tables_1) => atoms_spec (ws := Jvm.Cond.code x code maxLocals ret :: tables_1) hat d (List.mem_cons_of_mem _ hd)
  obtain ⟨i0, e0⟩ := is_v hk0
  obtain rfl : w0 = (.int i0) := Option.some.inj e0
  obtain ⟨i1, e1⟩ := is_v hk1
  obtain rfl : w1 = (.int i1) := Option.some.inj e1
  obtain ⟨n, o, h1, h2, h3, _, L, rfl, ⟨v', H', rfl, hR, rfl, N⟩, hq⟩ := law_ok i0 i1 s _ hw l s.heap tables_1 (Rel.start s KT) p e ha hc hk s m _ below hf ((Spec.applies_iff_loose hf).mp happ).1 ⟨rfl, State.Warmed39.refl s, rfl⟩ trivial
  refine ⟨n, _, h1, h2, h3, hpost _ _ _ _ _ _ ⟨Cond.after_iff.mpr rfl, Cond.after_iff.mpr (eq_i res_at (Term.int_eval (1)) rfl), trivial⟩ ⟨hq.1, hq.2.1, (hq.2.2.sift fun y hy => Or.inr (N y hy)).mono (by decide) (by decide)⟩⟩
theorem main_1_1 : Claimed_1_1 := comes_1 fun _ _ _ _ _ _ h hF => ⟨h.1, hF⟩
theorem main_1_2 : Claimed_1_2 := comes_1 fun _ _ _ _ _ _ h hF => ⟨h.2.1, hF⟩
end Jvm.Pilot.@@N@@
namespace Jvm.Pilot.@@N@@
open Jvm Jvm.ClassFile Sem Op Lib Jvm.Free Jvm.Stand Jvm.Pilot.@@N@@.Jvm.D
/-! MADE BY PROGRAM (witnessworld.py) out of the Statement's table words and the real class files: 9 classes; the members and pool entries that the words name. The judged class is class 1, her method 1. -/
namespace start1
open Jvm.ClassFile
def u (s : String) : CpInfo := .utf8 (stringToUtf16 s)
/-- a pool by its gaps: so many unusable entries, then the entry; so many at the end -/
def gap : Nat → List CpInfo → List CpInfo
  | 0, r => r
  | n + 1, r => .unusable :: gap n r
def poolList (es : List (Nat × CpInfo)) (last : Nat) : List CpInfo := es.foldr (fun e r => gap e.1 (e.2 :: r)) (gap last [])
def pool (es : List (Nat × CpInfo)) (last : Nat) : Array CpInfo := ⟨poolList es last⟩
def fileOf (pool : Array CpInfo) (this : Nat) (attrs : Array Attribute := #[]) (ms : Array MethodInfo := #[]) (fl : Nat := 33) (sup : Nat := 0) (ifs : Array Nat := #[]) (fds : Array FieldInfo := #[]) : ClassFile where
  minorVersion := 0
  majorVersion := 65
  constantPool := pool
  accessFlags := fl
  thisClass := this
  superClass := sup
  interfaces := ifs
  fields := fds
  methods := ms
  attributes := attrs
def plain (name : String) (sup : Option ClassId) : Class where
  name := name
  kind := .ordinary
  loader := none
  accessFlags := 33
  super := sup
  interfaces := #[]
  cf := none
  fields := #[]
  methods := #[]
  instanceTypes := #[]
  staticTypes := #[]
  resolved := #[]
  callSites := []
  init := .initialized
  statics := none
  mirror := none

def pool0 : Array CpInfo := pool [(5, u "<init>"), (0, u "()V"), (1, .class_ 10), (1, u "java/lang/Object")] 113

def k0c0 : Code := { maxStack := 0, maxLocals := 1, code := object_method_1_code, exceptionTable := #[], attributes := #[] }
def k0m0 : Method := { name := "<init>", desc := "()V", sig := { parameters := [], returnType := none }, accessFlags := 1, code := some k0c0 }
/-- java/lang/Object -/
def k0 : Class := { plain "java/lang/Object" none with
  accessFlags := 33
  interfaces := #[]
  cf := some (fileOf pool0 8 #[] #[{ accessFlags := 1, nameIndex := 5, descriptorIndex := 6, attributes := #[] }] 33 0 #[] #[])
  fields := #[]
  methods := #[k0m0]
  instanceTypes := #[]
  staticTypes := #[]
  resolved := Array.replicate 124 none
  statics := none }

def pool1 : Array CpInfo := pool [(2, .class_ 4), (1, u "java/lang/Object"), (0, u "<init>"), (0, u "()V"), (0, .class_ 8), (0, u "com/example/binwright/binwright/core/BinContents"), (0, .methodref 7 10), (0, .nameAndType 5 11), (0, u "(I)V"), (0, .methodref 7 13), (0, .nameAndType 14 15), (0, u "add"), (0, u "(II)V"), (0, .methodref 7 17), (0, .nameAndType 18 11), (0, u "remove"), (0, .methodref 7 20), (0, .nameAndType 21 22), (0, u "items"), (0, u "(I)[I"), (0, .methodref 24 25), (0, .class_ 26), (0, .nameAndType 27 28), (0, u "com/example/binwright/binwright/core/BinContentsItemsPinLaw"), (0, u "check"), (0, u "([IIIIZZZZ)Z"), (2, u "law"), (0, u "(II)Z")] 5

def k1m0 : Method := { name := "<init>", desc := "()V", sig := { parameters := [], returnType := none }, accessFlags := 1, code := none }
def k1c1 : Code := { maxStack := 8, maxLocals := 11, code := code, exceptionTable := #[], attributes := #[] }
def k1m1 : Method := { name := "law", desc := "(II)Z", sig := { parameters := [.int, .int], returnType := some .boolean }, accessFlags := 9, code := some k1c1 }
def k1c2 : Code := { maxStack := 3, maxLocals := 10, code := method_3_code, exceptionTable := #[], attributes := #[] }
def k1m2 : Method := { name := "check", desc := "([IIIIZZZZ)Z", sig := { parameters := [(.array .int), .int, .int, .int, .boolean, .boolean, .boolean, .boolean], returnType := some .boolean }, accessFlags := 10, code := some k1c2 }
/-- com/example/binwright/binwright/core/BinContentsItemsPinLaw -/
def k1 : Class := { plain "com/example/binwright/binwright/core/BinContentsItemsPinLaw" (some 0) with
  accessFlags := 49
  interfaces := #[]
  cf := some (fileOf pool1 24 #[] #[{ accessFlags := 1, nameIndex := 5, descriptorIndex := 6, attributes := #[] }, { accessFlags := 9, nameIndex := 31, descriptorIndex := 32, attributes := #[] }, { accessFlags := 10, nameIndex := 27, descriptorIndex := 28, attributes := #[] }] 49 2 #[] #[])
  fields := #[]
  methods := #[k1m0, k1m1, k1m2]
  instanceTypes := #[]
  staticTypes := #[]
  resolved := Array.replicate 38 none
  statics := none }

def pool2 : Array CpInfo := pool [(1, .methodref 2 3), (0, .class_ 4), (0, .nameAndType 5 6), (0, u "java/lang/Object"), (0, u "<init>"), (0, u "()V"), (0, .class_ 8), (0, u "com/example/binwright/binwright/core/BinContents"), (0, .fieldref 7 10), (0, .nameAndType 11 12), (0, u "first"), (0, u "[I"), (0, .fieldref 7 14), (0, .nameAndType 15 12), (0, u "last"), (0, .fieldref 7 17), (0, .nameAndType 18 12), (0, u "binOf"), (0, .fieldref 7 20), (0, .nameAndType 21 12), (0, u "before"), (0, .fieldref 7 23), (0, .nameAndType 24 12), (0, u "after"), (6, u "FIRST_BIN_COUNT"), (0, u "I"), (2, u "(I)V"), (3, u "add"), (0, u "(II)V"), (1, u "remove"), (0, u "items"), (0, u "(I)[I")] 3

def k2c0 : Code := { maxStack := 3, maxLocals := 2, code := prog_20_method_1_code, exceptionTable := #[], attributes := #[] }
def k2m0 : Method := { name := "<init>", desc := "(I)V", sig := { parameters := [.int], returnType := none }, accessFlags := 0, code := some k2c0 }
def k2c1 : Code := { maxStack := 4, maxLocals := 3, code := prog_20_method_3_code, exceptionTable := #[], attributes := #[] }
def k2m1 : Method := { name := "add", desc := "(II)V", sig := { parameters := [.int, .int], returnType := none }, accessFlags := 0, code := some k2c1 }
def k2c2 : Code := { maxStack := 4, maxLocals := 3, code := prog_20_method_4_code, exceptionTable := #[], attributes := #[] }
def k2m2 : Method := { name := "remove", desc := "(I)V", sig := { parameters := [.int], returnType := none }, accessFlags := 0, code := some k2c2 }
def k2c3 : Code := { maxStack := 3, maxLocals := 6, code := prog_20_method_5_code, exceptionTable := #[], attributes := #[] }
def k2m3 : Method := { name := "items", desc := "(I)[I", sig := { parameters := [.int], returnType := some (.array .int) }, accessFlags := 0, code := some k2c3 }
/-- com/example/binwright/binwright/core/BinContents -/
def k2 : Class := { plain "com/example/binwright/binwright/core/BinContents" (some 0) with
  accessFlags := 48
  interfaces := #[]
  cf := some (fileOf pool2 7 #[] #[{ accessFlags := 0, nameIndex := 5, descriptorIndex := 35, attributes := #[] }, { accessFlags := 0, nameIndex := 39, descriptorIndex := 40, attributes := #[] }, { accessFlags := 0, nameIndex := 42, descriptorIndex := 35, attributes := #[] }, { accessFlags := 0, nameIndex := 43, descriptorIndex := 44, attributes := #[] }] 48 2 #[] #[{ accessFlags := 26, nameIndex := 31, descriptorIndex := 32, attributes := #[] }, { accessFlags := 18, nameIndex := 18, descriptorIndex := 12, attributes := #[] }, { accessFlags := 18, nameIndex := 21, descriptorIndex := 12, attributes := #[] }, { accessFlags := 18, nameIndex := 24, descriptorIndex := 12, attributes := #[] }, { accessFlags := 2, nameIndex := 11, descriptorIndex := 12, attributes := #[] }, { accessFlags := 2, nameIndex := 15, descriptorIndex := 12, attributes := #[] }])
  fields := #[{ name := "FIRST_BIN_COUNT", type := .int, accessFlags := 26, slot := 0, constantValue := 0 }, { name := "binOf", type := (.array .int), accessFlags := 18, slot := 0, constantValue := 0 }, { name := "before", type := (.array .int), accessFlags := 18, slot := 1, constantValue := 0 }, { name := "after", type := (.array .int), accessFlags := 18, slot := 2, constantValue := 0 }, { name := "first", type := (.array .int), accessFlags := 2, slot := 3, constantValue := 0 }, { name := "last", type := (.array .int), accessFlags := 2, slot := 4, constantValue := 0 }]
  methods := #[k2m0, k2m1, k2m2, k2m3]
  instanceTypes := #[(.array .int), (.array .int), (.array .int), (.array .int), (.array .int)]
  staticTypes := #[.int]
  resolved := Array.replicate 48 none
  statics := none }

def pool3 : Array CpInfo := pool [(1, u "java/lang/Cloneable"), (0, .class_ 1), (0, u "java/lang/Object"), (0, .class_ 3)] 3

/-- java/lang/Cloneable -/
def k3 : Class := { plain "java/lang/Cloneable" (some 0) with
  accessFlags := 1537
  interfaces := #[]
  cf := some (fileOf pool3 2 #[] #[] 1537 4 #[] #[])
  fields := #[]
  methods := #[]
  instanceTypes := #[]
  staticTypes := #[]
  resolved := Array.replicate 8 none
  statics := none }

def pool4 : Array CpInfo := pool [(1, u "java/io/Serializable"), (0, .class_ 1), (0, u "java/lang/Object"), (0, .class_ 3)] 3

/-- java/io/Serializable -/
def k4 : Class := { plain "java/io/Serializable" (some 0) with
  accessFlags := 1537
  interfaces := #[]
  cf := some (fileOf pool4 2 #[] #[] 1537 4 #[] #[])
  fields := #[]
  methods := #[]
  instanceTypes := #[]
  staticTypes := #[]
  resolved := Array.replicate 8 none
  statics := none }

/-- the primitive byte -/
def k5 : Class := { plain "byte" none with kind := .primitive 'B', accessFlags := 0x411 }
/-- [B -/
def k6 : Class := { plain "[B" (some 0) with kind := .array 5 .byte, interfaces := #[3, 4], accessFlags := 1041 }

/-- the primitive int -/
def k7 : Class := { plain "int" none with kind := .primitive 'I', accessFlags := 0x411 }
/-- [I -/
def k8 : Class := { plain "[I" (some 0) with kind := .array 7 .int, interfaces := #[3, 4], accessFlags := 1041 }

def heap : Heap := #[]
def classes : Array Class := #[k0, k1, k2, k3, k4, k5, k6, k7, k8]
def interned : List (Array UInt16 × Addr) := []
def slotsUsed : Nat := 0
def theMethod : MethodId := ⟨1, 1⟩
def args0 : Array Value := #[.int 5, .int 3]
def aboutOver (below : List Frame) : State where
  vm := { classes := classes, interned := interned.toArray }
  heap := heap
  slotsUsed := slotsUsed
  threads := #[{ frames := .invoking theMethod args0 :: below }]
def below0 : List Frame := [.native { method := ⟨0, 0⟩, args := #[] }]
def about1 : State := aboutOver below0
def p0 : Program := .bare "" "" ""
def e0 : Env := launch0.env 0 0 0
theorem w_frames : about1.frames = Frame.invoking theMethod args0 :: below0 := rfl
set_option maxRecDepth 65536 in
theorem w_args : argsFit about1.vm theMethod args0 = true := by decide +kernel
set_option maxRecDepth 65536 in
theorem w_heap : heapFits about1 = true := by decide +kernel
set_option maxRecDepth 65536 in
theorem w_runnable : about1.curStatus? = some .runnable := by decide +kernel
set_option maxRecDepth 65536 in
theorem w_alone : about1.alone = true := by decide +kernel
set_option maxRecDepth 65536 in
theorem w_named : about1.methodNamed? x = some theMethod := by decide +kernel
set_option maxRecDepth 65536 in
theorem w_hears : about1.hears theMethod below0 = true := by decide +kernel
set_option maxRecDepth 65536 in
theorem w_ripe : about1.ripe theMethod args0 below0 = true := by decide +kernel
theorem w_running : about1.status = .running := rfl
set_option maxRecDepth 65536 in
theorem w_room : about1.hasRoom e0.platform room_1 = true :=
  launch0.hasRoom_least _ room_1 (by decide +kernel) (by decide +kernel) (by decide +kernel) (by decide +kernel) (by decide +kernel) (by decide +kernel)
theorem allAtoms_all (ts : List Jvm.Cond) (a : Array Jvm.Value) (st : Jvm.State) : (allAtoms ts).before a st = ts.all (fun c => c.before a st) := by
  induction ts with
  | nil => rfl
  | cons c t ih =>
    show (Jvm.Cond.and c (allAtoms t)).before a st = _
    rw [Jvm.Cond.before_and, ih, List.all_cons]
def words1 : List Jvm.Cond := Jvm.Cond.code x code maxLocals ret :: tables_1
/-- a 'code' word, met by the world's own term for the bytes: nothing is compared byte by byte -/
theorem code_word {y : MethodName} {bytes : ByteArray} {mx : Nat} {rt : Option FieldType} {a : Array Value} {s : State} {m : MethodId} {meth : Method} {c : Code} (h1 : s.methodNamed? y = some m) (h2 : s.vm.method? m = some meth) (h3 : meth.code = some c) (h4 : c.code = bytes)
    (h5 : (c.maxLocals == mx && c.exceptionTable.isEmpty && decide (c.maxStack ≤ mostOperands) && decide (meth.sig.returnType = rt) && !meth.locks && decide (parseMethodDescriptor y.desc = some meth.sig)) = true) : (Jvm.Cond.code y bytes mx rt).before a s = true := by
  simp only [Bool.and_eq_true, beq_iff_eq, Bool.not_eq_true', decide_eq_true_eq] at h5
  obtain ⟨⟨⟨⟨⟨g1, g2⟩, g3⟩, g4⟩, g5⟩, g6⟩ := h5
  simp [Cond.before, Cond.holds, Cond.value, h1, h2, h3, h4, g1, g2, g3, g4, g5, g6]
def isCode : Jvm.Cond → Bool
  | .code _ _ _ _ => true
  | _ => false
theorem all_split {L : List Jvm.Cond} {P : Jvm.Cond → Bool} (h1 : L.all (fun c => isCode c || P c) = true) (h2 : ∀ c ∈ L.filter isCode, P c = true) : L.all P = true := by
  refine List.all_eq_true.mpr fun c hc => ?_
  have h := List.all_eq_true.mp h1 c hc
  rcases Bool.eq_false_or_eq_true (isCode c) with hi | hi
  · exact h2 c (List.mem_filter.mpr ⟨hc, hi⟩)
  · simpa [hi] using h
set_option maxRecDepth 65536 in
theorem w_c0 : (Jvm.Cond.code x code maxLocals ret).before args0 about1 = true := code_word (m := ⟨1, 1⟩) (meth := k1m1) (c := k1c1) (by decide +kernel) rfl rfl rfl (by decide +kernel)
set_option maxRecDepth 65536 in
theorem w_c1 : (Jvm.Cond.code ({ cls := "com/example/binwright/binwright/core/BinContents", name := "<init>", desc := "(I)V" } : Jvm.MethodName) prog_20_method_1_code (2 : Nat) (Option.none : Option Jvm.ClassFile.FieldType)).before args0 about1 = true := code_word (m := ⟨2, 0⟩) (meth := k2m0) (c := k2c0) (by decide +kernel) rfl rfl rfl (by decide +kernel)
set_option maxRecDepth 65536 in
theorem w_c2 : (Jvm.Cond.code ({ cls := "java/lang/Object", name := "<init>", desc := "()V" } : Jvm.MethodName) object_method_1_code (1 : Nat) (Option.none : Option Jvm.ClassFile.FieldType)).before args0 about1 = true := code_word (m := ⟨0, 0⟩) (meth := k0m0) (c := k0c0) (by decide +kernel) rfl rfl rfl (by decide +kernel)
set_option maxRecDepth 65536 in
theorem w_c3 : (Jvm.Cond.code ({ cls := "com/example/binwright/binwright/core/BinContents", name := "add", desc := "(II)V" } : Jvm.MethodName) prog_20_method_3_code (3 : Nat) (Option.none : Option Jvm.ClassFile.FieldType)).before args0 about1 = true := code_word (m := ⟨2, 1⟩) (meth := k2m1) (c := k2c1) (by decide +kernel) rfl rfl rfl (by decide +kernel)
set_option maxRecDepth 65536 in
theorem w_c4 : (Jvm.Cond.code ({ cls := "com/example/binwright/binwright/core/BinContents", name := "items", desc := "(I)[I" } : Jvm.MethodName) prog_20_method_5_code (6 : Nat) (Option.some (Jvm.ClassFile.FieldType.array Jvm.ClassFile.FieldType.int))).before args0 about1 = true := code_word (m := ⟨2, 3⟩) (meth := k2m3) (c := k2c3) (by decide +kernel) rfl rfl rfl (by decide +kernel)
set_option maxRecDepth 65536 in
theorem w_c5 : (Jvm.Cond.code ({ cls := "com/example/binwright/binwright/core/BinContentsItemsPinLaw", name := "check", desc := "([IIIIZZZZ)Z" } : Jvm.MethodName) method_3_code (10 : Nat) (Option.some Jvm.ClassFile.FieldType.boolean)).before args0 about1 = true := code_word (m := ⟨1, 2⟩) (meth := k1m2) (c := k1c2) (by decide +kernel) rfl rfl rfl (by decide +kernel)
set_option maxRecDepth 65536 in
theorem w_c6 : (Jvm.Cond.code ({ cls := "com/example/binwright/binwright/core/BinContents", name := "remove", desc := "(I)V" } : Jvm.MethodName) prog_20_method_4_code (3 : Nat) (Option.none : Option Jvm.ClassFile.FieldType)).before args0 about1 = true := code_word (m := ⟨2, 2⟩) (meth := k2m2) (c := k2c2) (by decide +kernel) rfl rfl rfl (by decide +kernel)
def codes1 : List Jvm.Cond := [Jvm.Cond.code x code maxLocals ret, Jvm.Cond.code ({ cls := "com/example/binwright/binwright/core/BinContents", name := "<init>", desc := "(I)V" } : Jvm.MethodName) prog_20_method_1_code (2 : Nat) (Option.none : Option Jvm.ClassFile.FieldType), Jvm.Cond.code ({ cls := "java/lang/Object", name := "<init>", desc := "()V" } : Jvm.MethodName) object_method_1_code (1 : Nat) (Option.none : Option Jvm.ClassFile.FieldType), Jvm.Cond.code ({ cls := "com/example/binwright/binwright/core/BinContents", name := "add", desc := "(II)V" } : Jvm.MethodName) prog_20_method_3_code (3 : Nat) (Option.none : Option Jvm.ClassFile.FieldType), Jvm.Cond.code ({ cls := "com/example/binwright/binwright/core/BinContents", name := "items", desc := "(I)[I" } : Jvm.MethodName) prog_20_method_5_code (6 : Nat) (Option.some (Jvm.ClassFile.FieldType.array Jvm.ClassFile.FieldType.int)), Jvm.Cond.code ({ cls := "com/example/binwright/binwright/core/BinContentsItemsPinLaw", name := "check", desc := "([IIIIZZZZ)Z" } : Jvm.MethodName) method_3_code (10 : Nat) (Option.some Jvm.ClassFile.FieldType.boolean), Jvm.Cond.code ({ cls := "com/example/binwright/binwright/core/BinContents", name := "remove", desc := "(I)V" } : Jvm.MethodName) prog_20_method_4_code (3 : Nat) (Option.none : Option Jvm.ClassFile.FieldType)]
set_option maxRecDepth 65536 in
theorem codes_eq : words1.filter isCode = codes1 := rfl
theorem w_codes : ∀ c ∈ words1.filter isCode, c.before args0 about1 = true := by
  rw [codes_eq]
  intro c hc
  simp only [codes1, List.mem_cons, List.not_mem_nil, or_false] at hc
  rcases hc with rfl | rfl | rfl | rfl | rfl | rfl | rfl
  · exact w_c0
  · exact w_c1
  · exact w_c2
  · exact w_c3
  · exact w_c4
  · exact w_c5
  · exact w_c6
set_option maxRecDepth 65536 in
theorem w_t1 : (words1.take 24).all (fun c => isCode c || c.before args0 about1) = true := by decide +kernel
set_option maxRecDepth 65536 in
theorem w_t2 : (words1.drop 24).all (fun c => isCode c || c.before args0 about1) = true := by decide +kernel
theorem w_tables : (allAtoms (Jvm.Cond.code x code maxLocals ret :: tables_1)).before args0 about1 = true := by
  rw [allAtoms_all]
  show words1.all (fun c => c.before args0 about1) = true
  refine all_split ?_ w_codes
  rw [← List.take_append_drop 24 words1, List.all_append, w_t1, w_t2]
  rfl
set_option maxRecDepth 65536 in
theorem w_case : (Jvm.Cond.and given_1 narrow_1).before args0 about1 = true := by decide +kernel
theorem w_applies : (headSpec (Jvm.Cond.code x code maxLocals ret :: tables_1) room_1).applies x e0.platform about1 = true :=
  (Spec.applies_iff w_frames).mpr ⟨w_running, w_runnable, w_alone, w_named, w_hears, w_ripe, w_room, w_tables⟩
theorem atStart : AtStart classFile x code maxLocals ret World_1 tables_1 room_1 Calls_1 rest_1 Pre_1 launch0 p0 e0 about1 theMethod args0 below0 :=
  ⟨lists_1, trivial, launch0.admits_env _ _ _, launch0.least_env, fairChoices_fair.cas, fairChoices_fair.clock, w_frames, w_args, w_heap, w_applies, trivial, trivial, w_case⟩
end start1
theorem witness_1 : WitnessClaimed_1 := ⟨start1.p0, start1.e0, start1.about1, start1.theMethod, start1.args0, start1.below0, start1.atStart⟩
end Jvm.Pilot.@@N@@
