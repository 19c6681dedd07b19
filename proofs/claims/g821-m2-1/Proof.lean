import JvmDerived
import JvmDerived.Pilot.@@N@@Statement
import JvmDerived.Pilot.@@N@@Code
set_option linter.unusedVariables false
set_option linter.unusedSimpArgs false
namespace Jvm.RoadKit
open Sem ClassFile Op Lib Jvm.Stand Jvm.Free Jvm.LawKit
section New
variable {p : Program} {l : Launch} {e : Env} {R : Room} {s : State} {m : MethodId} {args : Array Value} {below : List Frame} {meth : Method} {c : Code} {T : State} {locs : List Loc} {cells slots : Nat}
theorem retI (X : Stand p l e R s m args below meth c T locs cells slots) (hx : p.tables.exec = Jvm.exec) {pc : Nat} {Ls : Array Slot} {z : Int32} {rest : List Value} (hret : meth.sig.returnType = some .int) (hd : decode c.code pc = .ok (.ireturn, 1)) {fs : List Frame}
    (hl : ∀ (f : JFrame) (acts : List Action), f.method = m → f.locked = none → f.entered = [] → (doReturn e (T.setTop f) acts (some (.int z))).1 = T.setFrames fs) : Steps p.tables e below (T.setTop (mkF m pc Ls (.int z :: rest))) (T.setFrames fs) := by
  have hm' : T.vm.method? m = some meth := X.method'
  have hn : narrow .int (.int z) = .int z := rfl
  show Steps p.tables e below (T.setTop { method := m, pc := pc, locals := Ls, stack := _ :: rest, locked := none }) _
  jvm_step X.here [X.here.top, hx, hd, hm', hret, hn]
  first | (intro acts; rw [hl _ acts rfl rfl rfl]) | rw [hl _ _ rfl rfl rfl]
  exact Steps.refl _
end New
end Jvm.RoadKit
namespace Jvm.Wp
open Sem ClassFile Op Lib Jvm.Free Jvm.Stand Jvm.LawKit Jvm.RoadKit

/-- a cell of the walk's own small heap: an array (its kind, its values) or an object (its class, its fields: name, descriptor, value) -/
abbrev MC : Type := Sum (FieldType × List Value) (String × List (String × String × Value))
abbrev MH : Type := List (Addr × MC)
def COk (Z : State) (a0 : Array Value) (h : Heap) (a : Addr) : MC → Prop
  | .inl (ty, vs) => ∃ c : Cell, Arr Z h a c ty ∧ c.slots = vs.toArray ∧ vs.length < 2 ^ 31
  | .inr (C, fs) => Exa Z h a C ∧ (fs.map (·.1)).Nodup ∧ ∀ x ∈ fs, Fld Z h a C x.1 x.2.1 x.2.2 ∧ Laid Z a0 C C x.1 x.2.1 ∧ ∃ t, parseFieldDescriptor x.2.1 = some t
def Rel (Z : State) (a0 : Array Value) (n0 : Nat) (H : MH) (h : Heap) : Prop := n0 ≤ h.size ∧ (H.map (·.1)).Nodup ∧ ∀ x ∈ H, n0 ≤ x.1 ∧ COk Z a0 h x.1 x.2

theorem idx_eq {j : Int32} {i : Nat} (hj : j.toInt = (i : Int)) : j.toNatClampNeg = i := by
  show j.toInt.toNat = i
  rw [hj]; simp
theorem idx_ok {j : Int32} {i n : Nat} (hj : j.toInt = (i : Int)) (hi : i < n) : ¬ (j < 0 ∨ n ≤ j.toNatClampNeg) := by
  rw [idx_eq hj, Int32.lt_iff_toInt_lt, hj]
  simp; omega
theorem COk.lt {Z : State} {a0 : Array Value} {h : Heap} {a : Addr} {c : MC} (k : COk Z a0 h a c) : a < h.size := by
  cases c with
  | inl q => obtain ⟨ty, vs⟩ := q; obtain ⟨c, A, -⟩ := k; exact A.lt
  | inr q => obtain ⟨C, fs⟩ := q; exact k.1.lt
theorem COk.ext {Z : State} {a0 : Array Value} {h h' : Heap} {a : Addr} {c : MC} (E : Ext h h') (k : COk Z a0 h a c) : COk Z a0 h' a c := by
  cases c with
  | inl q => obtain ⟨ty, vs⟩ := q; obtain ⟨c, A, r⟩ := k; exact ⟨c, A.ext E, r⟩
  | inr q => obtain ⟨C, fs⟩ := q; exact ⟨k.1.ext E, k.2.1, fun x hx => ⟨(k.2.2 x hx).1.ext E, (k.2.2 x hx).2⟩⟩
theorem COk.other {Z : State} {a0 : Array Value} {h h' : Heap} {a b : Addr} {sl : Nat} {v : Value} {c : MC} (W : Wr h h' b sl v) (hne : a ≠ b) (k : COk Z a0 h a c) : COk Z a0 h' a c := by
  cases c with
  | inl q => obtain ⟨ty, vs⟩ := q; obtain ⟨c, A, r⟩ := k; exact ⟨c, A.other W hne, r⟩
  | inr q => obtain ⟨C, fs⟩ := q; exact ⟨k.1.wr W, k.2.1, fun x hx => ⟨(k.2.2 x hx).1.other W (Or.inl hne), (k.2.2 x hx).2⟩⟩
theorem COk.setArr {Z : State} {a0 : Array Value} {h h' : Heap} {a : Addr} {ty : FieldType} {vs : List Value} {i : Nat} {v : Value} (W : Wr h h' a i v) (k : COk Z a0 h a (.inl (ty, vs))) : COk Z a0 h' a (.inl (ty, vs.set i v)) := by
  obtain ⟨c, A, e, r⟩ := k
  refine ⟨_, A.same W, ?_, by simpa using r⟩
  show c.slots.setIfInBounds i v = _
  rw [e]; simp
theorem Rel.ext {Z : State} {a0 : Array Value} {n0 : Nat} {H : MH} {h h' : Heap} (E : Ext h h') (r : Rel Z a0 n0 H h) : Rel Z a0 n0 H h' := ⟨Nat.le_trans r.1 E.1, r.2.1, fun x hx => ⟨(r.2.2 x hx).1, (r.2.2 x hx).2.ext E⟩⟩
theorem Rel.push {Z : State} {a0 : Array Value} {n0 : Nat} {H : MH} {h h' : Heap} {c : MC} (E : Ext h h') (r : Rel Z a0 n0 H h) (k : COk Z a0 h' h.size c) : Rel Z a0 n0 ((h.size, c) :: H) h' := by
  refine ⟨Nat.le_trans r.1 E.1, ?_, fun x hx => ?_⟩
  · rw [List.map_cons, List.nodup_cons]
    refine ⟨fun q => ?_, r.2.1⟩
    obtain ⟨x, hx, e⟩ := List.mem_map.mp q
    have h1 := (r.2.2 x hx).2.lt
    rw [e] at h1
    exact Nat.lt_irrefl _ h1
  · rcases List.mem_cons.mp hx with rfl | q
    · exact ⟨r.1, k⟩
    · exact ⟨(r.2.2 x q).1, (r.2.2 x q).2.ext E⟩
theorem Rel.set {Z : State} {a0 : Array Value} {n0 : Nat} {pre post : MH} {h h' : Heap} {a : Addr} {c c' : MC} {sl : Nat} {v : Value} (W : Wr h h' a sl v) (r : Rel Z a0 n0 (pre ++ (a, c) :: post) h) (k : COk Z a0 h a c → COk Z a0 h' a c') : Rel Z a0 n0 (pre ++ (a, c') :: post) h' := by
  obtain ⟨r1, N, F⟩ := r
  refine ⟨by rw [W.size]; exact r1, by simpa using N, fun x hx => ?_⟩
  have hme := F (a, c) (by simp)
  have hsplit : x = (a, c') ∨ (x ∈ pre ++ (a, c) :: post ∧ x.1 ≠ a) := by
    simp only [List.map_append, List.map_cons] at N
    rw [List.nodup_append] at N
    obtain ⟨-, N2, N3⟩ := N
    rw [List.nodup_cons] at N2
    rcases List.mem_append.mp hx with h1 | h1
    · refine Or.inr ⟨List.mem_append.mpr (Or.inl h1), ?_⟩
      exact N3 x.1 (List.mem_map_of_mem h1) a (by simp)
    · rcases List.mem_cons.mp h1 with h2 | h2
      · exact Or.inl h2
      · refine Or.inr ⟨List.mem_append.mpr (Or.inr (List.mem_cons_of_mem _ h2)), fun q => N2.1 ?_⟩
        rw [← q]; exact List.mem_map_of_mem h2
  rcases hsplit with rfl | ⟨hm, hne⟩
  · exact ⟨hme.1, k hme.2⟩
  · exact ⟨(F x hm).1, (F x hm).2.other W hne⟩
theorem Rel.at {Z : State} {a0 : Array Value} {n0 : Nat} {H : MH} {h : Heap} {k : Nat} {a : Addr} {c : MC} (r : Rel Z a0 n0 H h) (hk : H[k]? = some (a, c)) : n0 ≤ a ∧ COk Z a0 h a c := r.2.2 (a, c) (List.mem_of_getElem? hk)

/-- from pc on, with these locals, this stack, this small heap: the method returns, and Q holds of what it returns and of the small heap at the end -/
def WP (l : Launch) (Z : State) (a0 : Array Value) (n0 : Nat) (R : Room) (y : MethodName) (code : ByteArray) (mx : Nat) (ret : Option FieldType) (cells slots pc : Nat) (Ls : List Slot) (st : List Value) (H : MH) (Q : Option Value → MH → Prop) : Prop :=
  ∀ (p : Program) (e : Env) (s : State) (m : MethodId) (args : Array Value) (below : List Frame) (meth : Method) (c : Code) (T : State) (locs : List Loc),
    Stand p l e R s m args below meth c T locs cells slots → p.tables.exec = Jvm.exec → Z.Warmed39 s.vm → c.code = code → c.maxLocals = mx → s.vm.findClass y.cls = some m.cls → meth.name = y.name → meth.sig.returnType = ret → meth.locks = false →
    Fr n0 locs → Rel Z a0 n0 H T.heap → cells ≤ R.cells → slots ≤ R.slots →
    ∃ v H' L s₂, Steps p.tables e below (T.setTop (mkF m pc ⟨Ls⟩ st)) s₂ ∧ s₂.status = .running ∧ Ended s₂ below (.returned v) ∧ Fr n0 L ∧ Rel Z a0 n0 H' s₂.heap ∧ Q v H' ∧ s.WarmedH s₂.vm ∧ s.sameButNew ({ s₂ with vm := s.vm } : State) L R.cells R.slots
/-- a method's contract: called with these arguments over this small heap it returns, and Q holds -/
def Con (l : Launch) (Z : State) (a0 : Array Value) (n0 : Nat) (y : MethodName) (code : ByteArray) (mx : Nat) (ret : Option FieldType) (rm : Room) (as : Array Value) (H : MH) (Q : Option Value → MH → Prop) : Prop :=
  ∀ (ws : List Cond) (h0 : Heap), Rel Z a0 n0 H h0 → MetFree l y (head1 (Cond.code y code mx ret :: ws) rm) (fun a U => a = as ∧ Z.Warmed39 U.vm ∧ U.heap = h0) (fun _ _ _ _ _ => True)
    (fun _ U o U' => ∃ v L, o = .returned v ∧ (Fr n0 L ∧ ∃ H', Rel Z a0 n0 H' U'.heap ∧ Q v H') ∧ FrameEnd U o U' L rm.cells rm.slots)

variable {l : Launch} {Z : State} {a0 : Array Value} {n0 : Nat} {R : Room} {y : MethodName} {code : ByteArray} {mx : Nat} {ret : Option FieldType} {cells slots pc : Nat} {Ls : List Slot} {st : List Value} {H : MH} {Q : Option Value → MH → Prop}

def locsOf : List Value → List Slot
  | [] => []
  | v :: t => if v.category = 2 then .val v :: .second :: locsOf t else .val v :: locsOf t
theorem foldl_locs (l : List Value) : ∀ acc : Array Slot, l.foldl (fun acc v => if v.category = 2 then (acc.push (.val v)).push .second else acc.push (.val v)) acc = acc ++ (locsOf l).toArray := by
  induction l with
  | nil => intro acc; simp [locsOf]
  | cons v t ih =>
    intro acc
    rw [List.foldl_cons, ih, locsOf]
    split <;> simp
theorem efG (m : MethodId) (l : List Value) (mx : Nat) : entryFrame m l.toArray mx = mkF m 0 ⟨locsOf l ++ List.replicate (mx - (locsOf l).length) .unset⟩ [] := by
  have h : argsToLocals l.toArray mx = ⟨locsOf l ++ List.replicate (mx - (locsOf l).length) .unset⟩ := by
    unfold argsToLocals
    rw [show l.toArray.foldl (init := #[]) (fun acc v => if v.category = 2 then (acc.push (.val v)).push .second else acc.push (.val v)) = (locsOf l).toArray by rw [List.foldl_toArray, foldl_locs]; simp]
    apply Array.ext'
    simp
  simp only [entryFrame, mkF, h]
theorem Con.intro {rm : Room} {as : Array Value} (hpn : plainFor y = true) (hE : ∀ m, entryFrame m as mx = mkF m 0 ⟨Ls⟩ []) (h : WP l Z a0 n0 rm y code mx ret 0 0 0 Ls [] H Q) : Con l Z a0 n0 y code mx ret rm as H Q := by
  intro ws h0 hR
  refine MetFree.of_bodySF hpn hisR ?_
  intro p e s m args below meth c s₁ Bd hml0 hP hK
  obtain ⟨rfl, hZ, hh⟩ := hP
  have e0 : s₁.heap = h0 := by rw [← hh, Bd.state]; rfl
  obtain ⟨v, H', L, s2, k1, k2, k3, k4, k5, k6, k7, k8⟩ := h p e s m _ below meth c s₁ [] (Stand.of_body Bd) Bd.exec hZ Bd.bytes hml0 (findClass_of_methodNamed Bd.named) (name_of_methodNamed Bd.named Bd.method).1 Bd.returns Bd.notSynchronized (Fr.nil n0) (by rw [e0]; exact hR) (Nat.zero_le _) (Nat.zero_le _)
  exact ⟨s2, _, castTop (hE m) k1, k2, k3, v, L, rfl, ⟨k4, H', k5, k6⟩, ⟨_, rfl⟩, k7, k8⟩
theorem Con.mono {rm : Room} {as : Array Value} {Q' : Option Value → MH → Prop} (h : Con l Z a0 n0 y code mx ret rm as H Q) (k : ∀ v H', Q v H' → Q' v H') : Con l Z a0 n0 y code mx ret rm as H Q' := by
  intro ws h0 hR p e ha hc hk s m args below hf happ hP hK
  obtain ⟨n, o, q1, q2, q3, v, L, q4, ⟨q5, H', q6, q7⟩, q8⟩ := h ws h0 hR p e ha hc hk s m args below hf happ hP hK
  exact ⟨n, o, q1, q2, q3, v, L, q4, ⟨q5, H', q6, k _ _ q7⟩, q8⟩
theorem WP.mono {Q' : Option Value → MH → Prop} (h : WP l Z a0 n0 R y code mx ret cells slots pc Ls st H Q) (k : ∀ v H', Q v H' → Q' v H') : WP l Z a0 n0 R y code mx ret cells slots pc Ls st H Q' := by
  intro p e s m args below meth c T locs X hx hZ hc hm ho hn hr hl hF hR g1 g2
  obtain ⟨v, H', L, s2, k1, k2, k3, k4, k5, k6, k7⟩ := h p e s m args below meth c T locs X hx hZ hc hm ho hn hr hl hF hR g1 g2
  exact ⟨v, H', L, s2, k1, k2, k3, k4, k5, k _ _ k6, k7⟩

/-- a step that moves the frame alone -/
theorem pure {pc' : Nat} {Ls' : List Slot} {st' : List Value}
    (h : ∀ (p : Program) (e : Env) (m : MethodId) (below : List Frame) (c : Code) (T target : State), At T m c below → p.tables.exec = Jvm.exec → c.code = code → Steps p.tables e below (T.setTop (mkF m pc' ⟨Ls'⟩ st')) target → Steps p.tables e below (T.setTop (mkF m pc ⟨Ls⟩ st)) target)
    (k : WP l Z a0 n0 R y code mx ret cells slots pc' Ls' st' H Q) : WP l Z a0 n0 R y code mx ret cells slots pc Ls st H Q := by
  intro p e s m args below meth c T locs X hx hZ hc hm ho hn hr hl hF hR g1 g2
  obtain ⟨v, H', L, s2, k1, k2⟩ := k p e s m args below meth c T locs X hx hZ hc hm ho hn hr hl hF hR g1 g2
  exact ⟨v, H', L, s2, h p e m below c T s2 X.here hx hc k1, k2⟩
/-- a step that hands back a new state over the same heap -/
theorem stepT {pc' : Nat} {Ls' : List Slot} {st' : List Value}
    (h : ∀ (p : Program) (e : Env) (s : State) (m : MethodId) (args : Array Value) (below : List Frame) (meth : Method) (c : Code) (T : State) (locs : List Loc), Stand p l e R s m args below meth c T locs cells slots → p.tables.exec = Jvm.exec → Z.Warmed39 s.vm → c.code = code → c.maxLocals = mx → s.vm.findClass y.cls = some m.cls → Rel Z a0 n0 H T.heap →
      ∃ T', Stand p l e R s m args below meth c T' locs cells slots ∧ T'.heap = T.heap ∧ ∀ target, Steps p.tables e below (T'.setTop (mkF m pc' ⟨Ls'⟩ st')) target → Steps p.tables e below (T.setTop (mkF m pc ⟨Ls⟩ st)) target)
    (k : WP l Z a0 n0 R y code mx ret cells slots pc' Ls' st' H Q) : WP l Z a0 n0 R y code mx ret cells slots pc Ls st H Q := by
  intro p e s m args below meth c T locs X hx hZ hc hm ho hn hr hl hF hR g1 g2
  obtain ⟨T', X', e', st⟩ := h p e s m args below meth c T locs X hx hZ hc hm ho hR
  obtain ⟨v, H', L, s2, k1, k2⟩ := k p e s m args below meth c T' locs X' hx hZ hc hm ho hn hr hl hF (by rw [e']; exact hR) g1 g2
  exact ⟨v, H', L, s2, st _ k1, k2⟩
/-- a step that writes one place of the cell (a, cl) -/
theorem stepW {pc' : Nat} {Ls' : List Slot} {st' : List Value} {pre post : MH} {a : Addr} {cl cl' : MC}
    (h : ∀ (p : Program) (e : Env) (s : State) (m : MethodId) (args : Array Value) (below : List Frame) (meth : Method) (c : Code) (T : State) (locs : List Loc), Stand p l e R s m args below meth c T locs cells slots → p.tables.exec = Jvm.exec → Z.Warmed39 s.vm → c.code = code → c.maxLocals = mx → s.vm.findClass y.cls = some m.cls → meth.name = y.name → COk Z a0 T.heap a cl →
      ∃ T' h' sl v, Stand p l e R s m args below meth c T' (locs ++ [⟨a, sl⟩]) cells slots ∧ T'.heap = h' ∧ Wr T.heap h' a sl v ∧ (COk Z a0 T.heap a cl → COk Z a0 h' a cl') ∧ ∀ target, Steps p.tables e below (T'.setTop (mkF m pc' ⟨Ls'⟩ st')) target → Steps p.tables e below (T.setTop (mkF m pc ⟨Ls⟩ st)) target)
    (k : WP l Z a0 n0 R y code mx ret cells slots pc' Ls' st' (pre ++ (a, cl') :: post) Q) : WP l Z a0 n0 R y code mx ret cells slots pc Ls st (pre ++ (a, cl) :: post) Q := by
  intro p e s m args below meth c T locs X hx hZ hc hm ho hn hr hl hF hR g1 g2
  have hA := hR.at (k := pre.length) (a := a) (c := cl) (by simp)
  obtain ⟨T', h', sl, v, X', e', W, hco, st⟩ := h p e s m args below meth c T locs X hx hZ hc hm ho hn hA.2
  obtain ⟨v, H', L, s2, k1, k2⟩ := k p e s m args below meth c T' _ X' hx hZ hc hm ho hn hr hl (Fr.snoc X' hF hA.1) (by rw [e']; exact hR.set W hco) g1 g2
  exact ⟨v, H', L, s2, st _ k1, k2⟩

theorem iloadN {k : Fin 4} {v : Int32} {pc' : Nat} (hd : decode code pc = .ok (.iload_n k, 1)) (hl : Ls[k.val]? = some (.val (.int v))) (hp : pc + 1 = pc') (w : WP l Z a0 n0 R y code mx ret cells slots pc' Ls (.int v :: st) H Q) : WP l Z a0 n0 R y code mx ret cells slots pc Ls st H Q := by
  subst hp
  exact pure (fun p e m below c T t h hx hc hs => XS.iloadN h hx rfl (hb hc hd) (by simpa using hl) hs) w
theorem iload {k : Nat} {v : Int32} {pc' : Nat} (hd : decode code pc = .ok (.iload k, 2)) (hl : Ls[k]? = some (.val (.int v))) (hp : pc + 2 = pc') (w : WP l Z a0 n0 R y code mx ret cells slots pc' Ls (.int v :: st) H Q) : WP l Z a0 n0 R y code mx ret cells slots pc Ls st H Q := by
  subst hp
  exact pure (fun p e m below c T t h hx hc hs => XS.iload h hx rfl (hb hc hd) (by simpa using hl) hs) w
theorem lloadN {k : Fin 4} {v : Int64} {pc' : Nat} (hd : decode code pc = .ok (.lload_n k, 1)) (hl : Ls[k.val]? = some (.val (.long v))) (hp : pc + 1 = pc') (w : WP l Z a0 n0 R y code mx ret cells slots pc' Ls (.long v :: st) H Q) : WP l Z a0 n0 R y code mx ret cells slots pc Ls st H Q := by
  subst hp
  exact pure (fun p e m below c T t h hx hc hs => XS.lloadN h hx rfl (hb hc hd) (by simpa using hl) hs) w
theorem aloadN {k : Fin 4} {v : Value} {pc' : Nat} (hd : decode code pc = .ok (.aload_n k, 1)) (hl : Ls[k.val]? = some (.val v)) (hv : v.isRef = true) (hp : pc + 1 = pc') (w : WP l Z a0 n0 R y code mx ret cells slots pc' Ls (v :: st) H Q) : WP l Z a0 n0 R y code mx ret cells slots pc Ls st H Q := by
  subst hp
  exact pure (fun p e m below c T t h hx hc hs => XS.aloadN h hx rfl (hb hc hd) (by simpa using hl) hv hs) w
theorem aload {k : Nat} {v : Value} {pc' : Nat} (hd : decode code pc = .ok (.aload k, 2)) (hl : Ls[k]? = some (.val v)) (hv : v.isRef = true) (hp : pc + 2 = pc') (w : WP l Z a0 n0 R y code mx ret cells slots pc' Ls (v :: st) H Q) : WP l Z a0 n0 R y code mx ret cells slots pc Ls st H Q := by
  subst hp
  exact pure (fun p e m below c T t h hx hc hs => XS.aload h hx rfl (hb hc hd) (by simpa using hl) hv hs) w
theorem iconst {i : Int} (n : Int32) {pc' : Nat} (hd : decode code pc = .ok (.iconst i, 1)) (hn : Int32.ofInt i = n) (hp : pc + 1 = pc') (w : WP l Z a0 n0 R y code mx ret cells slots pc' Ls (.int n :: st) H Q) : WP l Z a0 n0 R y code mx ret cells slots pc Ls st H Q := by
  subst hp hn
  exact pure (fun p e m below c T t h hx hc hs => XS.iconst h hx rfl (hb hc hd) hs) w
theorem bipush {i : Int} (n : Int32) {pc' : Nat} (hd : decode code pc = .ok (.bipush i, 2)) (hn : (Int8.ofInt i).toInt32 = n) (hp : pc + 2 = pc') (w : WP l Z a0 n0 R y code mx ret cells slots pc' Ls (.int n :: st) H Q) : WP l Z a0 n0 R y code mx ret cells slots pc Ls st H Q := by
  subst hp hn
  exact pure (fun p e m below c T t h hx hc hs => XS.bipush h hx rfl (hb hc hd) hs) w
theorem sipush {i : Int} (n : Int32) {pc' : Nat} (hd : decode code pc = .ok (.sipush i, 3)) (hn : (Int16.ofInt i).toInt32 = n) (hp : pc + 3 = pc') (w : WP l Z a0 n0 R y code mx ret cells slots pc' Ls (.int n :: st) H Q) : WP l Z a0 n0 R y code mx ret cells slots pc Ls st H Q := by
  subst hp hn
  exact pure (fun p e m below c T t h hx hc hs => XS.sipush h hx rfl (hb hc hd) hs) w
theorem lconst {i : Fin 2} (n : Int64) {pc' : Nat} (hd : decode code pc = .ok (.lconst i, 1)) (hn : Int64.ofNat i = n) (hp : pc + 1 = pc') (w : WP l Z a0 n0 R y code mx ret cells slots pc' Ls (.long n :: st) H Q) : WP l Z a0 n0 R y code mx ret cells slots pc Ls st H Q := by
  subst hp hn
  exact pure (fun p e m below c T t h hx hc hs => XS.lconst h hx rfl (hb hc hd) hs) w
theorem iadd {x z : Int32} {pc' : Nat} (hd : decode code pc = .ok (.iadd, 1)) (hp : pc + 1 = pc') (w : WP l Z a0 n0 R y code mx ret cells slots pc' Ls (.int (x + z) :: st) H Q) : WP l Z a0 n0 R y code mx ret cells slots pc Ls (.int z :: .int x :: st) H Q := by
  subst hp
  exact pure (fun p e m below c T t h hx hc hs => XS.iadd h hx rfl (hb hc hd) rfl hs) w
theorem imul {x z : Int32} {pc' : Nat} (hd : decode code pc = .ok (.imul, 1)) (hp : pc + 1 = pc') (w : WP l Z a0 n0 R y code mx ret cells slots pc' Ls (.int (x * z) :: st) H Q) : WP l Z a0 n0 R y code mx ret cells slots pc Ls (.int z :: .int x :: st) H Q := by
  subst hp
  exact pure (fun p e m below c T t h hx hc hs => XS.imul h hx rfl (hb hc hd) rfl hs) w
theorem iand {x z : Int32} {pc' : Nat} (hd : decode code pc = .ok (.iand, 1)) (hp : pc + 1 = pc') (w : WP l Z a0 n0 R y code mx ret cells slots pc' Ls (.int (x &&& z) :: st) H Q) : WP l Z a0 n0 R y code mx ret cells slots pc Ls (.int z :: .int x :: st) H Q := by
  subst hp
  exact pure (fun p e m below c T t h hx hc hs => XS.iand h hx rfl (hb hc hd) rfl hs) w
theorem iushr {x z : Int32} {pc' : Nat} (hd : decode code pc = .ok (.iushr, 1)) (hp : pc + 1 = pc') (w : WP l Z a0 n0 R y code mx ret cells slots pc' Ls (.int ((x.toUInt32 >>> (z &&& 31).toUInt32).toInt32) :: st) H Q) : WP l Z a0 n0 R y code mx ret cells slots pc Ls (.int z :: .int x :: st) H Q := by
  subst hp
  exact pure (fun p e m below c T t h hx hc hs => XS.iushr h hx rfl (hb hc hd) rfl hs) w
theorem idiv {x z : Int32} {pc' : Nat} (hd : decode code pc = .ok (.idiv, 1)) (hz : z ≠ 0) (hp : pc + 1 = pc') (w : WP l Z a0 n0 R y code mx ret cells slots pc' Ls (.int (x / z) :: st) H Q) : WP l Z a0 n0 R y code mx ret cells slots pc Ls (.int z :: .int x :: st) H Q := by
  subst hp
  exact pure (fun p e m below c T t h hx hc hs => XS.idiv h hx rfl (hb hc hd) rfl hz hs) w
theorem irem {x z : Int32} {pc' : Nat} (hd : decode code pc = .ok (.irem, 1)) (hz : z ≠ 0) (hp : pc + 1 = pc') (w : WP l Z a0 n0 R y code mx ret cells slots pc' Ls (.int (x % z) :: st) H Q) : WP l Z a0 n0 R y code mx ret cells slots pc Ls (.int z :: .int x :: st) H Q := by
  subst hp
  exact pure (fun p e m below c T t h hx hc hs => XS.irem h hx rfl (hb hc hd) rfl hz (by rw [irem_eq_mod]; exact hs)) w
theorem i2l {x : Int32} {pc' : Nat} (hd : decode code pc = .ok (.i2l, 1)) (hp : pc + 1 = pc') (w : WP l Z a0 n0 R y code mx ret cells slots pc' Ls (.long (x.toInt64) :: st) H Q) : WP l Z a0 n0 R y code mx ret cells slots pc Ls (.int x :: st) H Q := by
  subst hp
  exact pure (fun p e m below c T t h hx hc hs => XS.i2l h hx rfl (hb hc hd) rfl hs) w
theorem l2i {x : Int64} {pc' : Nat} (hd : decode code pc = .ok (.l2i, 1)) (hp : pc + 1 = pc') (w : WP l Z a0 n0 R y code mx ret cells slots pc' Ls (.int (x.toInt32) :: st) H Q) : WP l Z a0 n0 R y code mx ret cells slots pc Ls (.long x :: st) H Q := by
  subst hp
  exact pure (fun p e m below c T t h hx hc hs => XS.l2i h hx rfl (hb hc hd) rfl hs) w
theorem lcmp {x z : Int64} {pc' : Nat} (hd : decode code pc = .ok (.lcmp, 1)) (hp : pc + 1 = pc') (w : WP l Z a0 n0 R y code mx ret cells slots pc' Ls (.int (lcmpW x z) :: st) H Q) : WP l Z a0 n0 R y code mx ret cells slots pc Ls (.long z :: .long x :: st) H Q := by
  subst hp
  exact pure (fun p e m below c T t h hx hc hs => XS.lcmp h hx rfl (hb hc hd) rfl hs) w
theorem goto {o : Int} {pc' : Nat} (hd : decode code pc = .ok (.goto o, 3)) (hp : (pc : Int) + o = (pc' : Int)) (w : WP l Z a0 n0 R y code mx ret cells slots pc' Ls st H Q) : WP l Z a0 n0 R y code mx ret cells slots pc Ls st H Q :=
  pure (fun p e m below c T t h hx hc hs => XS.goto h hx rfl (pc0 := pc) (pc' := pc') rfl (hb hc hd) (by omega) (by omega) hs) w
theorem hI_ge {x z : Int32} : (if_icmp.holds .ge x z = true → z.toInt ≤ x.toInt) ∧ (if_icmp.holds .ge x z = false → x.toInt < z.toInt) := by
  constructor <;> intro hq <;> simp [if_icmp.holds, Int32.lt_iff_toInt_lt, Int32.le_iff_toInt_le] at hq ⊢ <;> first | omega | exact hq | simp_all
theorem icmp_ge {x z : Int32} {o : Int} {pt pf : Nat} (hd : decode code pc = .ok (.if_icmp .ge o, 3)) (hp : (pc : Int) + o = (pt : Int)) (hq : pc + 3 = pf) (wt : z.toInt ≤ x.toInt → WP l Z a0 n0 R y code mx ret cells slots pt Ls st H Q) (wf : x.toInt < z.toInt → WP l Z a0 n0 R y code mx ret cells slots pf Ls st H Q) : WP l Z a0 n0 R y code mx ret cells slots pc Ls (.int z :: .int x :: st) H Q := by
  subst hq
  cases hh : if_icmp.holds .ge x z
  · exact pure (fun p e m below c T t h hx hc hs => XS.icmpNo h hx rfl (hb hc hd) rfl hh hs) (wf (hI_ge.2 hh))
  · exact pure (fun p e m below c T t h hx hc hs => XS.icmpYes h hx rfl (pc0 := pc) (pc' := pt) rfl (hb hc hd) rfl hh (by omega) (by omega) hs) (wt (hI_ge.1 hh))
theorem hI_eq {x z : Int32} : (if_icmp.holds .eq x z = true → x = z) ∧ (if_icmp.holds .eq x z = false → ¬ x = z) := by
  constructor <;> intro hq <;> simp [if_icmp.holds, Int32.lt_iff_toInt_lt, Int32.le_iff_toInt_le] at hq ⊢ <;> first | omega | exact hq | simp_all
theorem hZ_eq {x : Int32} : (ifCond.holds .eq x = true → x = 0) ∧ (ifCond.holds .eq x = false → ¬ x = 0) := by
  rw [if0]
  exact hI_eq (z := 0)
theorem if_eq {x : Int32} {o : Int} {pt pf : Nat} (hd : decode code pc = .ok (.ifCond .eq o, 3)) (hp : (pc : Int) + o = (pt : Int)) (hq : pc + 3 = pf) (wt : x = 0 → WP l Z a0 n0 R y code mx ret cells slots pt Ls st H Q) (wf : ¬ x = 0 → WP l Z a0 n0 R y code mx ret cells slots pf Ls st H Q) : WP l Z a0 n0 R y code mx ret cells slots pc Ls (.int x :: st) H Q := by
  subst hq
  cases hh : ifCond.holds .eq x
  · exact pure (fun p e m below c T t h hx hc hs => XS.ifNo h hx rfl (hb hc hd) rfl hh hs) (wf (hZ_eq.2 hh))
  · exact pure (fun p e m below c T t h hx hc hs => XS.ifYes h hx rfl (pc0 := pc) (pc' := pt) rfl (hb hc hd) rfl hh (by omega) (by omega) hs) (wt (hZ_eq.1 hh))
theorem lcmp_eq {x z : Int64} {o : Int} {pt pf p1 : Nat} (hd : decode code pc = .ok (.lcmp, 1)) (h1 : pc + 1 = p1) (he : decode code p1 = .ok (.ifCond .eq o, 3)) (hp : (p1 : Int) + o = (pt : Int)) (hq : p1 + 3 = pf) (wt : x = z → WP l Z a0 n0 R y code mx ret cells slots pt Ls st H Q) (wf : ¬ x = z → WP l Z a0 n0 R y code mx ret cells slots pf Ls st H Q) : WP l Z a0 n0 R y code mx ret cells slots pc Ls (.long z :: .long x :: st) H Q :=
  lcmp hd h1 (if_eq he hp hq (fun q => wt ((lw_eq x z).mp q)) fun q => wf (fun e => q ((lw_eq x z).mpr e)))
theorem hI_ne {x z : Int32} : (if_icmp.holds .ne x z = true → ¬ x = z) ∧ (if_icmp.holds .ne x z = false → x = z) := by
  constructor <;> intro hq <;> simp [if_icmp.holds, Int32.lt_iff_toInt_lt, Int32.le_iff_toInt_le] at hq ⊢ <;> first | omega | exact hq | simp_all
theorem icmp_ne {x z : Int32} {o : Int} {pt pf : Nat} (hd : decode code pc = .ok (.if_icmp .ne o, 3)) (hp : (pc : Int) + o = (pt : Int)) (hq : pc + 3 = pf) (wt : ¬ x = z → WP l Z a0 n0 R y code mx ret cells slots pt Ls st H Q) (wf : x = z → WP l Z a0 n0 R y code mx ret cells slots pf Ls st H Q) : WP l Z a0 n0 R y code mx ret cells slots pc Ls (.int z :: .int x :: st) H Q := by
  subst hq
  cases hh : if_icmp.holds .ne x z
  · exact pure (fun p e m below c T t h hx hc hs => XS.icmpNo h hx rfl (hb hc hd) rfl hh hs) (wf (hI_ne.2 hh))
  · exact pure (fun p e m below c T t h hx hc hs => XS.icmpYes h hx rfl (pc0 := pc) (pc' := pt) rfl (hb hc hd) rfl hh (by omega) (by omega) hs) (wt (hI_ne.1 hh))
def ok1 : Slot → Bool
  | .unset => true
  | .val v => v.category == 1
  | .second => false
theorem stl1 (pre : List Slot) {o : Slot} {t : List Slot} {v : Value} (ho : ok1 o = true) (hv : v.category = 1) : storeLocals ⟨pre ++ o :: t⟩ pre.length v = some ⟨pre ++ .val v :: t⟩ := by
  have hg : (⟨pre ++ o :: t⟩ : Array Slot)[pre.length]? = some o := by simp
  have hs : storeSelf (⟨pre ++ o :: t⟩ : Array Slot) pre.length v = some ⟨pre ++ .val v :: t⟩ := by
    simp [storeSelf, setAt, hv, Array.setIfInBounds]
  cases o with
  | unset => simp only [storeLocals, hg]; exact hs
  | second => cases ho
  | val w =>
    have hw : ¬ w.category = 2 := by simp only [ok1, beq_iff_eq] at ho; omega
    simp only [storeLocals, hg]
    show (if w.category = 2 then _ else _) = _
    rw [if_neg hw]; exact hs
theorem istore_4 {s0 s1 s2 s3 : Slot} {o : Slot} {t : List Slot} {x : Int32} {pc' : Nat} (hd : decode code pc = .ok (.istore 4, 2)) (ho : ok1 o = true) (hp : pc + 2 = pc') (w : WP l Z a0 n0 R y code mx ret cells slots pc' (s0 :: s1 :: s2 :: s3 :: .val (.int x) :: t) st H Q) : WP l Z a0 n0 R y code mx ret cells slots pc (s0 :: s1 :: s2 :: s3 :: o :: t) (.int x :: st) H Q := by
  subst hp
  exact pure (fun p e m below c T t h hx hc' hs => XS.istore h hx rfl (hb hc' hd) rfl (stl1 [s0, s1, s2, s3] ho rfl) hs) w
theorem iinc_4 {s0 s1 s2 s3 : Slot} {t : List Slot} {x : Int32} {i : Int} (n : Int32) {pc' : Nat} (hd : decode code pc = .ok (.iinc 4 i, 3)) (hn : Int32.ofInt i = n) (hp : pc + 3 = pc') (w : WP l Z a0 n0 R y code mx ret cells slots pc' (s0 :: s1 :: s2 :: s3 :: .val (.int (x + n)) :: t) st H Q) : WP l Z a0 n0 R y code mx ret cells slots pc (s0 :: s1 :: s2 :: s3 :: .val (.int x) :: t) st H Q := by
  subst hp hn
  exact pure (fun p e m below c T t h hx hc' hs => XS.iinc h hx rfl (hb hc' hd) rfl (stl1 [s0, s1, s2, s3] rfl rfl) hs) w
theorem istore_5 {s0 s1 s2 s3 s4 : Slot} {o : Slot} {t : List Slot} {x : Int32} {pc' : Nat} (hd : decode code pc = .ok (.istore 5, 2)) (ho : ok1 o = true) (hp : pc + 2 = pc') (w : WP l Z a0 n0 R y code mx ret cells slots pc' (s0 :: s1 :: s2 :: s3 :: s4 :: .val (.int x) :: t) st H Q) : WP l Z a0 n0 R y code mx ret cells slots pc (s0 :: s1 :: s2 :: s3 :: s4 :: o :: t) (.int x :: st) H Q := by
  subst hp
  exact pure (fun p e m below c T t h hx hc' hs => XS.istore h hx rfl (hb hc' hd) rfl (stl1 [s0, s1, s2, s3, s4] ho rfl) hs) w
theorem istore_6 {s0 s1 s2 s3 s4 s5 : Slot} {o : Slot} {t : List Slot} {x : Int32} {pc' : Nat} (hd : decode code pc = .ok (.istore 6, 2)) (ho : ok1 o = true) (hp : pc + 2 = pc') (w : WP l Z a0 n0 R y code mx ret cells slots pc' (s0 :: s1 :: s2 :: s3 :: s4 :: s5 :: .val (.int x) :: t) st H Q) : WP l Z a0 n0 R y code mx ret cells slots pc (s0 :: s1 :: s2 :: s3 :: s4 :: s5 :: o :: t) (.int x :: st) H Q := by
  subst hp
  exact pure (fun p e m below c T t h hx hc' hs => XS.istore h hx rfl (hb hc' hd) rfl (stl1 [s0, s1, s2, s3, s4, s5] ho rfl) hs) w
theorem astore_7 {s0 s1 s2 s3 s4 s5 s6 : Slot} {o : Slot} {t : List Slot} {v : Value} {pc' : Nat} (hd : decode code pc = .ok (.astore 7, 2)) (hv : v.isRef = true) (hc : v.category = 1) (ho : ok1 o = true) (hp : pc + 2 = pc') (w : WP l Z a0 n0 R y code mx ret cells slots pc' (s0 :: s1 :: s2 :: s3 :: s4 :: s5 :: s6 :: .val (v) :: t) st H Q) : WP l Z a0 n0 R y code mx ret cells slots pc (s0 :: s1 :: s2 :: s3 :: s4 :: s5 :: s6 :: o :: t) (v :: st) H Q := by
  subst hp
  exact pure (fun p e m below c T t h hx hc' hs => XS.astore h hx rfl (hb hc' hd) rfl hv (stl1 [s0, s1, s2, s3, s4, s5, s6] ho hc) hs) w
theorem istore_8 {s0 s1 s2 s3 s4 s5 s6 s7 : Slot} {o : Slot} {t : List Slot} {x : Int32} {pc' : Nat} (hd : decode code pc = .ok (.istore 8, 2)) (ho : ok1 o = true) (hp : pc + 2 = pc') (w : WP l Z a0 n0 R y code mx ret cells slots pc' (s0 :: s1 :: s2 :: s3 :: s4 :: s5 :: s6 :: s7 :: .val (.int x) :: t) st H Q) : WP l Z a0 n0 R y code mx ret cells slots pc (s0 :: s1 :: s2 :: s3 :: s4 :: s5 :: s6 :: s7 :: o :: t) (.int x :: st) H Q := by
  subst hp
  exact pure (fun p e m below c T t h hx hc' hs => XS.istore h hx rfl (hb hc' hd) rfl (stl1 [s0, s1, s2, s3, s4, s5, s6, s7] ho rfl) hs) w
theorem istore_9 {s0 s1 s2 s3 s4 s5 s6 s7 s8 : Slot} {o : Slot} {t : List Slot} {x : Int32} {pc' : Nat} (hd : decode code pc = .ok (.istore 9, 2)) (ho : ok1 o = true) (hp : pc + 2 = pc') (w : WP l Z a0 n0 R y code mx ret cells slots pc' (s0 :: s1 :: s2 :: s3 :: s4 :: s5 :: s6 :: s7 :: s8 :: .val (.int x) :: t) st H Q) : WP l Z a0 n0 R y code mx ret cells slots pc (s0 :: s1 :: s2 :: s3 :: s4 :: s5 :: s6 :: s7 :: s8 :: o :: t) (.int x :: st) H Q := by
  subst hp
  exact pure (fun p e m below c T t h hx hc' hs => XS.istore h hx rfl (hb hc' hd) rfl (stl1 [s0, s1, s2, s3, s4, s5, s6, s7, s8] ho rfl) hs) w
theorem istore_10 {s0 s1 s2 s3 s4 s5 s6 s7 s8 s9 : Slot} {o : Slot} {t : List Slot} {x : Int32} {pc' : Nat} (hd : decode code pc = .ok (.istore 10, 2)) (ho : ok1 o = true) (hp : pc + 2 = pc') (w : WP l Z a0 n0 R y code mx ret cells slots pc' (s0 :: s1 :: s2 :: s3 :: s4 :: s5 :: s6 :: s7 :: s8 :: s9 :: .val (.int x) :: t) st H Q) : WP l Z a0 n0 R y code mx ret cells slots pc (s0 :: s1 :: s2 :: s3 :: s4 :: s5 :: s6 :: s7 :: s8 :: s9 :: o :: t) (.int x :: st) H Q := by
  subst hp
  exact pure (fun p e m below c T t h hx hc' hs => XS.istore h hx rfl (hb hc' hd) rfl (stl1 [s0, s1, s2, s3, s4, s5, s6, s7, s8, s9] ho rfl) hs) w
theorem ldcI {i : Nat} {n : Int32} {pc' : Nat} (hw : (Cond.constant y.cls i n).before a0 Z = true) (hd : decode code pc = .ok (.ldc i, 2)) (hp : pc + 2 = pc') (w : WP l Z a0 n0 R y code mx ret cells slots pc' Ls (.int n :: st) H Q) : WP l Z a0 n0 R y code mx ret cells slots pc Ls st H Q := by
  subst hp
  exact stepT (fun p e s m args below meth c T locs X hx hZ hc hm ho hR => ⟨T, X, rfl, X.ldcInt hx ho (mvT hZ hw) (g := mkF m pc ⟨Ls⟩ st) rfl (hb hc hd)⟩) w
theorem arraylength {ty : FieldType} {a : Addr} {vs : List Value} {pc' : Nat} (k : Nat) (n : Int32) (hd : decode code pc = .ok (.arraylength, 1)) (hk : H[k]? = some (a, .inl (ty, vs))) (hn : Int32.ofNat vs.length = n) (hp : pc + 1 = pc') (w : WP l Z a0 n0 R y code mx ret cells slots pc' Ls (.int n :: st) H Q) : WP l Z a0 n0 R y code mx ret cells slots pc Ls (.ref a :: st) H Q := by
  subst hp hn
  exact stepT (fun p e s m args below meth c T locs X hx hZ hc hm ho hR => ⟨T, X, rfl, fun target hs => by
    obtain ⟨cl, A, q1, q2⟩ := (hR.at hk).2
    refine X.arraylength hx A.1 (State.isArrayOf_alike hZ.alike A.2.1) (g := mkF m pc ⟨Ls⟩ (.ref a :: st)) rfl rfl (hb hc hd) _ ?_
    rw [q1, List.size_toArray]; exact hs⟩) w
theorem laload {a : Addr} {vs : List Value} {j : Int32} {v : Value} {pc' : Nat} (k i : Nat) (hd : decode code pc = .ok (.laload, 1)) (hk : H[k]? = some (a, .inl (.long, vs))) (hj : j.toInt = (i : Int)) (hv : vs[i]? = some v) (hp : pc + 1 = pc') (w : WP l Z a0 n0 R y code mx ret cells slots pc' Ls (v :: st) H Q) : WP l Z a0 n0 R y code mx ret cells slots pc Ls (.int j :: .ref a :: st) H Q := by
  subst hp
  exact stepT (fun p e s m args below meth c T locs X hx hZ hc hm ho hR => ⟨T, X, rfl, fun target hs => by
    obtain ⟨cl, A, q1, q2⟩ := (hR.at hk).2
    have q3 : j.toNatClampNeg = i := idx_eq hj
    have q4 : cl.slots[j.toNatClampNeg]? = some v := by rw [q1, q3]; simpa using hv
    exact X.laload hx A.1 (State.isArrayOf_alike hZ.alike A.2.1) A.2.2 (idx_ok hj (by rw [q1, List.size_toArray]; exact (List.getElem?_eq_some_iff.mp hv).1)) q4 (g := mkF m pc ⟨Ls⟩ (.int j :: .ref a :: st)) rfl rfl (hb hc hd) _ hs⟩) w
theorem lastoreG (pre : MH) {post : MH} {a : Addr} {vs : List Value} {j : Int32} {x : Int64} {pc' : Nat} (i : Nat) (hd : decode code pc = .ok (.lastore, 1)) (hj : j.toInt = (i : Int)) (hi : i < vs.length) (hp : pc + 1 = pc') (w : WP l Z a0 n0 R y code mx ret cells slots pc' Ls st (pre ++ (a, .inl (.long, vs.set i (.long x))) :: post) Q) : WP l Z a0 n0 R y code mx ret cells slots pc Ls ((.long x) :: .int j :: .ref a :: st) (pre ++ (a, .inl (.long, vs)) :: post) Q := by
  subst hp
  exact stepW (pre := pre) (fun p e s m args below meth c T locs X hx hZ hc hm ho hn hR => by
    obtain ⟨cl, A, q1, q2⟩ := hR
    have q3 : j.toNatClampNeg = i := idx_eq hj
    obtain ⟨T', h', X', e', W, st⟩ := stJ X hx hZ rfl A (x := x) (idx_ok hj (by rw [q1, List.size_toArray]; exact hi)) (g := mkF m pc ⟨Ls⟩ ((.long x) :: .int j :: .ref a :: st)) rfl rfl (hb hc hd)
    rw [q3] at W X'
    exact ⟨T', h', _, _, X', e', W, fun k => k.setArr W, st⟩) w
theorem lastore_0 {post : MH} {a : Addr} {vs : List Value} {j : Int32} {x : Int64} {pc' : Nat} (i : Nat) (hd : decode code pc = .ok (.lastore, 1)) (hj : j.toInt = (i : Int)) (hi : i < vs.length) (hp : pc + 1 = pc') (w : WP l Z a0 n0 R y code mx ret cells slots pc' Ls st ((a, .inl (.long, vs.set i (.long x))) :: post) Q) : WP l Z a0 n0 R y code mx ret cells slots pc Ls ((.long x) :: .int j :: .ref a :: st) ((a, .inl (.long, vs)) :: post) Q := lastoreG [] i hd hj hi hp w
theorem newarray {aty : ArrayType} {n : Int32} {pc' : Nat} {ty : FieldType} (i cap : Nat) (vs : List Value) (hw : (Cond.arrayClass ty).before a0 Z = true) (hd : decode code pc = .ok (.newarray aty, 2)) (hn : n.toInt = (i : Int)) (hcap : i ≤ cap) (hbig : cap * 8 ≤ 536870912) (hc : cells + 1 ≤ R.cells) (hl : slots + cap ≤ R.slots) (hvs : List.replicate i (defaultValue ty) = vs) (hp : pc + 2 = pc') (hty : newarray.typeOf aty = ty) {cells' slots' : Nat} (hc' : cells + 1 = cells') (hs' : slots + cap = slots') (w : ∀ a : Addr, WP l Z a0 n0 R y code mx ret cells' slots' pc' Ls (.ref a :: st) ((a, .inl (ty, vs)) :: H) Q) : WP l Z a0 n0 R y code mx ret cells slots pc Ls (.int n :: st) H Q := by
  subst hp hvs hty hc' hs'
  intro p e s m args below meth c T locs X hx hZ hcode hm ho hnm hr hlk hF hR g1 g2
  have q3 : n.toNatClampNeg = i := idx_eq hn
  obtain ⟨T', h', cA, X', e', E, A, st⟩ := newP X hx hZ hw rfl (g := mkF m pc ⟨Ls⟩ (.int n :: st)) rfl (hb hcode hd) rfl (fun q => by rw [Int32.lt_iff_toInt_lt, hn] at q; simp at q; omega) (cap := cap) (by rw [q3]; exact hcap) hbig hc hl
  have hlt : i < 2 ^ 31 := by have := n.toInt_lt; rw [hn] at this; omega
  obtain ⟨v, H', L, s2, k1, k2⟩ := w _ p e s m args below meth c T' locs X' hx hZ hcode hm ho hnm hr hlk hF (by rw [e']; exact hR.push E ⟨_, A, by simp [newA, q3], by simpa using hlt⟩) hc hl
  exact ⟨v, H', L, s2, st _ k1, k2⟩
theorem leaveW {v : Option Value} {st : List Value} (hv : ret = none → v = none) (q : Q v H)
    (h : ∀ (p : Program) (e : Env) (s : State) (m : MethodId) (args : Array Value) (below : List Frame) (meth : Method) (c : Code) (T : State) (locs : List Loc) (fs : List Frame), Stand p l e R s m args below meth c T locs cells slots → p.tables.exec = Jvm.exec → c.code = code → meth.sig.returnType = ret → (∀ (f : JFrame) (acts : List Action), f.method = m → f.locked = none → f.entered = [] → (doReturn e (T.setTop f) acts v).1 = T.setFrames fs) → Steps p.tables e below (T.setTop (mkF m pc ⟨Ls⟩ st)) (T.setFrames fs)) : WP l Z a0 n0 R y code mx ret cells slots pc Ls st H Q := by
  intro p e s m args below meth c T locs X hx hZ hc hm ho hn hr hl hF hR g1 g2
  obtain ⟨fs, hrr, hrun, hended, hW, hsame⟩ := X.leave (v := v) (fun k => hv (by rw [← hr]; exact k)) hl
  exact ⟨v, H, locs, _, h p e s m args below meth c T locs fs X hx hc hr hrr, hrun, hended, hF, hR, q, hW, hsame.mono g1 g2⟩
theorem ireturn {z : Int32} (hret : ret = some .int) (hd : decode code pc = .ok (.ireturn, 1)) (q : Q (some (.int z)) H) : WP l Z a0 n0 R y code mx ret cells slots pc Ls (.int z :: st) H Q :=
  leaveW (fun k => by rw [hret] at k; cases k) q fun p e s m args below meth c T locs fs X hx hc hr hrr => retI X hx (hr.trans hret) (hb hc hd) hrr
theorem zreturn {z : Int32} (hret : ret = some .boolean) (hd : decode code pc = .ok (.ireturn, 1)) (q : Q (some (.int (z &&& 1))) H) : WP l Z a0 n0 R y code mx ret cells slots pc Ls (.int z :: st) H Q :=
  leaveW (fun k => by rw [hret] at k; cases k) q fun p e s m args below meth c T locs fs X hx hc hr hrr => retN X hx (t := .boolean) (hr.trans hret) (by simp) (hb hc hd) hrr
theorem lreturn {z : Int64} (hret : ret = some .long) (hd : decode code pc = .ok (.lreturn, 1)) (q : Q (some (.long z)) H) : WP l Z a0 n0 R y code mx ret cells slots pc Ls (.long z :: st) H Q :=
  leaveW (fun k => by rw [hret] at k; cases k) q fun p e s m args below meth c T locs fs X hx hc hr hrr => retOut X hx (hr.trans hret) rfl (Or.inr (Or.inl ⟨rfl, rfl, _, rfl⟩)) (hb hc hd) hrr
/-- what a call by a contract leaves -/
def After (l : Launch) (Z : State) (a0 : Array Value) (n0 : Nat) (R : Room) (y : MethodName) (code : ByteArray) (mx : Nat) (ret : Option FieldType) (cells slots pc : Nat) (Ls : List Slot) (st : List Value) (Q : Option Value → MH → Prop) : Option Value → MH → Prop
  | some r, H' => WP l Z a0 n0 R y code mx ret cells slots pc Ls (r :: st) H' Q
  | none, H' => WP l Z a0 n0 R y code mx ret cells slots pc Ls st H' Q
theorem After.to {v : Option Value} {H' : MH} (h : After l Z a0 n0 R y code mx ret cells slots pc Ls st Q v H') : WP l Z a0 n0 R y code mx ret cells slots pc Ls (v.toList ++ st) H' Q := by
  cases v <;> exact h
theorem callSG {z : MethodName} {zc : ByteArray} {zm : Nat} {zr : Option FieldType} {ps : List FieldType} {i : Nat} {rm : Room} {pc' : Nat} (W : Nat) (argsL : List Value) {rest : List Value} (w1 : (Cond.methodLink y.cls i z).before a0 Z = true) (w2 : (Cond.static z).before a0 Z = true) (w3 : (Cond.initialized z.cls).before a0 Z = true) (w4 : (Cond.code z zc zm zr).before a0 Z = true) (hy : z.cls ≠ "java/lang/invoke/MethodHandle" ∧ z.cls ≠ "java/lang/invoke/VarHandle") (hds : parseMethodDescriptor z.desc = some ⟨ps, zr⟩) (hlen : argsL.length = ps.length) (hd : decode code pc = .ok (.invokestatic i, 3)) (hs : Ls.length = mx) (hW : (rest.map fun v => v.category).sum = W) (hf : rm.frames + 1 ≤ R.frames) (hl : W + (zm + 11) + rm.locals ≤ R.locals) (hc : cells + rm.cells ≤ R.cells) (hsl : slots + rm.slots ≤ R.slots) (hp : pc + 3 = pc') {cells' slots' : Nat} (hc' : cells + rm.cells = cells') (hs' : slots + rm.slots = slots') (hst : st = argsL.reverse ++ rest)
    (k : Con l Z a0 n0 z zc zm zr rm argsL.toArray H (After l Z a0 n0 R y code mx ret cells' slots' pc' Ls rest Q)) : WP l Z a0 n0 R y code mx ret cells slots pc Ls st H Q := by
  subst hp hst hc' hs'
  intro p e s m args below meth c T locs X hx hZ hcode hm ho hnm hr hlk hF hR g1 g2
  obtain ⟨v, vm, ⟨T', L', k', n'⟩, -, X', ⟨Lc, ⟨q1, H', q2, q3⟩, e1, e2, e3⟩, st'⟩ := Jvm.LawKit.callS X hx (y := z) ho (mvT hZ w1) (mvT hZ w2) (mvT hZ w3) (mvT hZ w4) hy (backOf (W := W) (h := T.heap) (Q := fun v h L => Fr n0 L ∧ ∃ H', Rel Z a0 n0 H' h ∧ After l Z a0 n0 R y code mx ret (cells + rm.cells) (slots + rm.slots) (pc + 3) Ls rest Q v H') (k [] T.heap hR) hZ w4 w3 hf hl) (g := mkF m pc ⟨Ls⟩ (argsL.reverse ++ rest)) rfl (by rw [hm]; simpa using hs) (argsL := argsL) (rest := rest) (lenOf hds hlen) rfl (by show 2 * 0 + _ ≤ _; omega) (hb hcode hd) (fun _ _ => ⟨rfl, rfl, hc, hsl⟩)
  dsimp only [Pt.U, Pt.locs, Pt.cells, Pt.slots] at X' e1 e2 e3 st'
  subst e1 e2 e3
  obtain ⟨v2, H2, L2, s2, k1, k2⟩ := (After.to q3) p e s m args below meth c T' _ X' hx hZ hcode hm ho hnm hr hlk (Fr.app hF q1) q2 hc hsl
  exact ⟨v2, H2, L2, s2, st' _ k1, k2⟩
theorem afterS {r : Value} {H' : MH} (h : WP l Z a0 n0 R y code mx ret cells slots pc Ls (r :: st) H' Q) : After l Z a0 n0 R y code mx ret cells slots pc Ls st Q (some r) H' := h
theorem callS_3 {z : MethodName} {zc : ByteArray} {zm : Nat} {zr : Option FieldType} {ps : List FieldType} {i : Nat} {rm : Room} {pc' : Nat} (W : Nat) {v0 v1 v2 : Value} {rest : List Value} (w1 : (Cond.methodLink y.cls i z).before a0 Z = true) (w2 : (Cond.static z).before a0 Z = true) (w3 : (Cond.initialized z.cls).before a0 Z = true) (w4 : (Cond.code z zc zm zr).before a0 Z = true) (hy : z.cls ≠ "java/lang/invoke/MethodHandle" ∧ z.cls ≠ "java/lang/invoke/VarHandle") (hds : parseMethodDescriptor z.desc = some ⟨ps, zr⟩) (hlen : 3 = ps.length) (hd : decode code pc = .ok (.invokestatic i, 3)) (hs : Ls.length = mx) (hW : (rest.map fun v => v.category).sum = W) (hf : rm.frames + 1 ≤ R.frames) (hl : W + (zm + 11) + rm.locals ≤ R.locals) (hc : cells + rm.cells ≤ R.cells) (hsl : slots + rm.slots ≤ R.slots) (hp : pc + 3 = pc') {cells' slots' : Nat} (hc' : cells + rm.cells = cells') (hs' : slots + rm.slots = slots') (k : Con l Z a0 n0 z zc zm zr rm #[v0, v1, v2] H (After l Z a0 n0 R y code mx ret cells' slots' pc' Ls rest Q)) : WP l Z a0 n0 R y code mx ret cells slots pc Ls (v2 :: v1 :: v0 :: rest) H Q := callSG W [v0, v1, v2] w1 w2 w3 w4 hy hds hlen hd hs hW hf hl hc hsl hp hc' hs' rfl k
end Jvm.Wp
namespace Jvm.Pilot.@@N@@
open Jvm Jvm.ClassFile Sem Op Lib Jvm.Free Jvm.Stand Jvm.LawKit Jvm.RoadKit Bundle Jvm.Pilot.@@N@@.Jvm.D
set_option maxHeartbeats 8000000
abbrev Hw (Z : State) (a0 : Array Value) : Prop := ∀ d ∈ tables_1, d.before a0 Z = true
theorem w0 {Z : State} {a0 : Array Value} (hw : Hw Z a0) : (Jvm.Cond.constant "com/example/slim_sieve/slimsieve/BlocksAnySetPastLastBlockPinLaw" (7 : Nat) (2147483647 : Int32)).before a0 Z = true := hw _ (List.mem_of_getElem? (i := 0) rfl)
theorem w1 {Z : State} {a0 : Array Value} (hw : Hw Z a0) : (Jvm.Cond.arrayClass Jvm.ClassFile.FieldType.long).before a0 Z = true := hw _ (List.mem_of_getElem? (i := 1) rfl)
theorem w2 {Z : State} {a0 : Array Value} (hw : Hw Z a0) : (Jvm.Cond.methodLink "com/example/slim_sieve/slimsieve/BlocksAnySetPastLastBlockPinLaw" (8 : Nat) ({ cls := "com/example/slim_sieve/slimsieve/BlocksAnySetPastLastBlockPinLaw", name := "pick", desc := "(IIJ)J" } : Jvm.MethodName)).before a0 Z = true := hw _ (List.mem_of_getElem? (i := 2) rfl)
theorem w3 {Z : State} {a0 : Array Value} (hw : Hw Z a0) : (Jvm.Cond.static ({ cls := "com/example/slim_sieve/slimsieve/BlocksAnySetPastLastBlockPinLaw", name := "pick", desc := "(IIJ)J" } : Jvm.MethodName)).before a0 Z = true := hw _ (List.mem_of_getElem? (i := 3) rfl)
theorem w4 {Z : State} {a0 : Array Value} (hw : Hw Z a0) : (Jvm.Cond.initialized "com/example/slim_sieve/slimsieve/BlocksAnySetPastLastBlockPinLaw").before a0 Z = true := hw _ (List.mem_of_getElem? (i := 4) rfl)
theorem w5 {Z : State} {a0 : Array Value} (hw : Hw Z a0) : (Jvm.Cond.code ({ cls := "com/example/slim_sieve/slimsieve/BlocksAnySetPastLastBlockPinLaw", name := "pick", desc := "(IIJ)J" } : Jvm.MethodName) method_2_code (4 : Nat) (Option.some Jvm.ClassFile.FieldType.long)).before a0 Z = true := hw _ (List.mem_of_getElem? (i := 5) rfl)
theorem w6 {Z : State} {a0 : Array Value} (hw : Hw Z a0) : (Jvm.Cond.methodLink "com/example/slim_sieve/slimsieve/BlocksAnySetPastLastBlockPinLaw" (14 : Nat) ({ cls := "com/example/slim_sieve/slimsieve/Blocks", name := "anySetPastLastBlock", desc := "([JJI)Z" } : Jvm.MethodName)).before a0 Z = true := hw _ (List.mem_of_getElem? (i := 6) rfl)
theorem w7 {Z : State} {a0 : Array Value} (hw : Hw Z a0) : (Jvm.Cond.static ({ cls := "com/example/slim_sieve/slimsieve/Blocks", name := "anySetPastLastBlock", desc := "([JJI)Z" } : Jvm.MethodName)).before a0 Z = true := hw _ (List.mem_of_getElem? (i := 7) rfl)
theorem w8 {Z : State} {a0 : Array Value} (hw : Hw Z a0) : (Jvm.Cond.initialized "com/example/slim_sieve/slimsieve/Blocks").before a0 Z = true := hw _ (List.mem_of_getElem? (i := 8) rfl)
theorem w9 {Z : State} {a0 : Array Value} (hw : Hw Z a0) : (Jvm.Cond.code ({ cls := "com/example/slim_sieve/slimsieve/Blocks", name := "anySetPastLastBlock", desc := "([JJI)Z" } : Jvm.MethodName) prog_3_method_6_code (5 : Nat) (Option.some Jvm.ClassFile.FieldType.boolean)).before a0 Z = true := hw _ (List.mem_of_getElem? (i := 9) rfl)
theorem d1_0 : decode method_2_code 0 = .ok (.iload_n 0, 1) := by decide +kernel
theorem d1_1 : decode method_2_code 1 = .ok (.iload_n 1, 1) := by decide +kernel
theorem d1_2 : decode method_2_code 2 = .ok (.iushr, 1) := by decide +kernel
theorem d1_3 : decode method_2_code 3 = .ok (.iconst 1, 1) := by decide +kernel
theorem d1_4 : decode method_2_code 4 = .ok (.iand, 1) := by decide +kernel
theorem d1_5 : decode method_2_code 5 = .ok (.ifCond .eq 7, 3) := by decide +kernel
theorem d1_8 : decode method_2_code 8 = .ok (.lload_n 2, 1) := by decide +kernel
theorem d1_9 : decode method_2_code 9 = .ok (.goto 4, 3) := by decide +kernel
theorem d1_12 : decode method_2_code 12 = .ok (.lconst 0, 1) := by decide +kernel
theorem d1_13 : decode method_2_code 13 = .ok (.lreturn, 1) := by decide +kernel
theorem d2_0 : decode prog_3_method_6_code 0 = .ok (.lload_n 1, 1) := by decide +kernel
theorem d2_1 : decode prog_3_method_6_code 1 = .ok (.l2i, 1) := by decide +kernel
theorem d2_2 : decode prog_3_method_6_code 2 = .ok (.iload_n 3, 1) := by decide +kernel
theorem d2_3 : decode prog_3_method_6_code 3 = .ok (.imul, 1) := by decide +kernel
theorem d2_4 : decode prog_3_method_6_code 4 = .ok (.istore 4, 2) := by decide +kernel
theorem d2_6 : decode prog_3_method_6_code 6 = .ok (.iload 4, 2) := by decide +kernel
theorem d2_8 : decode prog_3_method_6_code 8 = .ok (.aload_n 0, 1) := by decide +kernel
theorem d2_9 : decode prog_3_method_6_code 9 = .ok (.arraylength, 1) := by decide +kernel
theorem d2_10 : decode prog_3_method_6_code 10 = .ok (.if_icmp .ge 20, 3) := by decide +kernel
theorem d2_13 : decode prog_3_method_6_code 13 = .ok (.aload_n 0, 1) := by decide +kernel
theorem d2_14 : decode prog_3_method_6_code 14 = .ok (.iload 4, 2) := by decide +kernel
theorem d2_16 : decode prog_3_method_6_code 16 = .ok (.laload, 1) := by decide +kernel
theorem d2_17 : decode prog_3_method_6_code 17 = .ok (.lconst 0, 1) := by decide +kernel
theorem d2_18 : decode prog_3_method_6_code 18 = .ok (.lcmp, 1) := by decide +kernel
theorem d2_19 : decode prog_3_method_6_code 19 = .ok (.ifCond .eq 5, 3) := by decide +kernel
theorem d2_22 : decode prog_3_method_6_code 22 = .ok (.iconst 1, 1) := by decide +kernel
theorem d2_23 : decode prog_3_method_6_code 23 = .ok (.ireturn, 1) := by decide +kernel
theorem d2_24 : decode prog_3_method_6_code 24 = .ok (.iinc 4 1, 3) := by decide +kernel
theorem d2_27 : decode prog_3_method_6_code 27 = .ok (.goto (-21), 3) := by decide +kernel
theorem d2_30 : decode prog_3_method_6_code 30 = .ok (.iconst 0, 1) := by decide +kernel
theorem d2_31 : decode prog_3_method_6_code 31 = .ok (.ireturn, 1) := by decide +kernel
theorem pd0 : parseMethodDescriptor "(IIJ)J" = some ⟨[.int, .int, .long], some .long⟩ := by decide +kernel
theorem pd1 : parseMethodDescriptor "([JJI)Z" = some ⟨[(.array .long), .long, .int], some .boolean⟩ := by decide +kernel
abbrev nm0 : MethodName := x
abbrev rm0 : Room := room_1
abbrev C0 (l : Launch) (Z : State) (a0 : Array Value) (n0 : Nat) := Wp.Con l Z a0 n0 nm0 code maxLocals ret rm0
abbrev W0 (l : Launch) (Z : State) (a0 : Array Value) (n0 : Nat) := Wp.WP l Z a0 n0 rm0 nm0 code maxLocals ret
theorem pn0 : plainFor nm0 = true := by first | exact plainFor_of_name (by first | (simp [plainName, overriddenIn, nm0, x]; done) | decide +kernel) | decide +kernel
theorem ef0 (m : MethodId) (x0 : Int32) (x1 : Int64) (x2 : Int32) (x3 : Int32) : entryFrame m #[(.int x0), (.long x1), (.int x2), (.int x3)] maxLocals = mkF m 0 ⟨[.val (.int x0), .val (.long x1), .second, .val (.int x2), .val (.int x3), .unset, .unset, .unset, .unset, .unset, .unset]⟩ [] := by first | exact (Wp.efG m [(.int x0), (.long x1), (.int x2), (.int x3)] maxLocals).trans rfl | (simp [entryFrame, mkF, argsToLocals, Value.category, maxLocals]; done)
abbrev nm1 : MethodName := ⟨"com/example/slim_sieve/slimsieve/BlocksAnySetPastLastBlockPinLaw", "pick", "(IIJ)J"⟩
abbrev rm1 : Room := { frames := 0, cells := 0, slots := 0, locals := 0 }
abbrev C1 (l : Launch) (Z : State) (a0 : Array Value) (n0 : Nat) := Wp.Con l Z a0 n0 nm1 method_2_code 4 (some .long) rm1
abbrev W1 (l : Launch) (Z : State) (a0 : Array Value) (n0 : Nat) := Wp.WP l Z a0 n0 rm1 nm1 method_2_code 4 (some .long)
theorem pn1 : plainFor nm1 = true := by first | exact plainFor_of_name (by first | (simp [plainName, overriddenIn, nm1, x]; done) | decide +kernel) | decide +kernel
theorem ef1 (m : MethodId) (x0 : Int32) (x1 : Int32) (x2 : Int64) : entryFrame m #[(.int x0), (.int x1), (.long x2)] 4 = mkF m 0 ⟨[.val (.int x0), .val (.int x1), .val (.long x2), .second]⟩ [] := by first | exact (Wp.efG m [(.int x0), (.int x1), (.long x2)] 4).trans rfl | (simp [entryFrame, mkF, argsToLocals, Value.category]; done)
abbrev nm2 : MethodName := ⟨"com/example/slim_sieve/slimsieve/Blocks", "anySetPastLastBlock", "([JJI)Z"⟩
abbrev rm2 : Room := { frames := 0, cells := 0, slots := 0, locals := 0 }
abbrev C2 (l : Launch) (Z : State) (a0 : Array Value) (n0 : Nat) := Wp.Con l Z a0 n0 nm2 prog_3_method_6_code 5 (some .boolean) rm2
abbrev W2 (l : Launch) (Z : State) (a0 : Array Value) (n0 : Nat) := Wp.WP l Z a0 n0 rm2 nm2 prog_3_method_6_code 5 (some .boolean)
theorem pn2 : plainFor nm2 = true := by first | exact plainFor_of_name (by first | (simp [plainName, overriddenIn, nm2, x]; done) | decide +kernel) | decide +kernel
theorem ef2 (m : MethodId) (x0 : Addr) (x1 : Int64) (x2 : Int32) : entryFrame m #[(.ref x0), (.long x1), (.int x2)] 5 = mkF m 0 ⟨[.val (.ref x0), .val (.long x1), .second, .val (.int x2), .unset]⟩ [] := by first | exact (Wp.efG m [(.ref x0), (.long x1), (.int x2)] 5).trans rfl | (simp [entryFrame, mkF, argsToLocals, Value.category]; done)
set_option maxRecDepth 65536
def own_b (p : Bool) : Int32 := if p then 1 else 0
theorem own_b1 {p : Bool} (h : p = true) : (some (Value.int (1 &&& 1)) : Option Value) = some (.int (own_b p)) := by subst h; rfl
theorem own_b0 {p : Bool} (h : p = false) : (some (Value.int (0 &&& 1)) : Option Value) = some (.int (own_b p)) := by subst h; rfl

theorem own_inc {i : Int32} {k : Nat} (h : i.toInt = (k : Int)) (hk : k < 2147483647) : (i + 1).toInt = ((k + 1 : Nat) : Int) := by
  have h1 := c_iadd i 1
  have h2 := rng32 (i + 1)
  have h3 : (1 : Int32).toInt = 1 := rfl
  omega

def own_bt (m i : Int32) : Int32 := (m.toUInt32 >>> (i &&& 31).toUInt32).toInt32 &&& 1
def own_pick (m i : Int32) (v : Int64) : Int64 := if own_bt m i = 0 then 0 else v
def own_picks (m : Int32) (v : Int64) : List Int64 := [own_pick m 0 v, own_pick m 1 v, own_pick m 2 v, own_pick m 3 v, own_pick m 4 v, own_pick m 5 v, own_pick m 6 v, own_pick m 7 v]
def own_nz (x : Int64) : Bool := decide (x ≠ 0)
theorem own_bit (x : BitVec 32) (j : Nat) (hj : j < 8) : (x >>> j) &&& 1#32 = ((x &&& 255#32) >>> j) &&& 1#32 := by
  apply BitVec.eq_of_getLsbD_eq
  intro i hi
  simp only [BitVec.getLsbD_and, BitVec.getLsbD_ushiftRight]
  have h1 : (1#32).getLsbD i = decide (i = 0) := by
    have : ∀ i : Fin 32, (1#32).getLsbD i.1 = decide (i.1 = 0) := by decide +kernel
    exact this ⟨i, hi⟩
  rw [h1]
  by_cases h : i = 0
  · subst h
    have : (255#32).getLsbD (j + 0) = true := by
      have : ∀ j : Fin 8, (255#32).getLsbD (j.1 + 0) = true := by decide +kernel
      exact this ⟨j, hj⟩
    rw [this]; simp
  · simp [h]
theorem own_bt8 (m : Int32) : own_bt m 0 = own_bt (m &&& 255) 0 ∧ own_bt m 1 = own_bt (m &&& 255) 1 ∧ own_bt m 2 = own_bt (m &&& 255) 2 ∧ own_bt m 3 = own_bt (m &&& 255) 3 ∧ own_bt m 4 = own_bt (m &&& 255) 4 ∧ own_bt m 5 = own_bt (m &&& 255) 5 ∧ own_bt m 6 = own_bt (m &&& 255) 6 ∧ own_bt m 7 = own_bt (m &&& 255) 7 := by
  refine ⟨?_, ?_, ?_, ?_, ?_, ?_, ?_, ?_⟩ <;> apply Int32.toBitVec_inj.mp
  · exact own_bit m.toBitVec 0 (by decide)
  · exact own_bit m.toBitVec 1 (by decide)
  · exact own_bit m.toBitVec 2 (by decide)
  · exact own_bit m.toBitVec 3 (by decide)
  · exact own_bit m.toBitVec 4 (by decide)
  · exact own_bit m.toBitVec 5 (by decide)
  · exact own_bit m.toBitVec 6 (by decide)
  · exact own_bit m.toBitVec 7 (by decide)
theorem own_low8' (x : Int32) : ∃ k : Fin 256, x &&& 255 = Int32.ofNat k.1 := by
  refine ⟨⟨x.toBitVec.toNat % 256, Nat.mod_lt _ (by decide)⟩, ?_⟩
  apply Int32.toBitVec_inj.mp
  apply BitVec.eq_of_toNat_eq
  rw [Int32.toBitVec_and, BitVec.toNat_and]
  show x.toBitVec.toNat &&& 255 = (BitVec.ofNat 32 (x.toBitVec.toNat % 256)).toNat
  rw [show (255 : Nat) = 2 ^ 8 - 1 from rfl, Nat.and_two_pow_sub_one_eq_mod, BitVec.toNat_ofNat]
  omega
def own_nb (u i : Int32) : Bool := decide (¬ own_bt u i = 0)
theorem own_tab : ∀ (k : Fin 256) (s : Fin 9), (([own_nb (Int32.ofNat k.1) 0, own_nb (Int32.ofNat k.1) 1, own_nb (Int32.ofNat k.1) 2, own_nb (Int32.ofNat k.1) 3, own_nb (Int32.ofNat k.1) 4, own_nb (Int32.ofNat k.1) 5, own_nb (Int32.ofNat k.1) 6, own_nb (Int32.ofNat k.1) 7] : List Bool).drop s.1).any id = decide (¬ (((Int32.ofNat k.1).toUInt32 >>> ((Int32.ofNat s.1) &&& 31).toUInt32).toInt32 = 0)) := by decide +kernel
theorem own_fin (m : Int32) (v : Int64) (s : Nat) (hs : s ≤ 8) :
    ((own_picks m v).drop s).any own_nz = (decide (¬ v = 0) && decide (¬ (((m &&& 255).toUInt32 >>> ((Int32.ofNat s) &&& 31).toUInt32).toInt32 = 0))) := by
  by_cases hv : v = 0
  · subst hv
    have h0 : ∀ i, own_pick m i 0 = 0 := fun i => by unfold own_pick; split <;> rfl
    have : own_picks m 0 = List.replicate 8 0 := by simp only [own_picks, h0]; rfl
    rw [this, List.drop_replicate]
    simp [own_nz]
  · have hp : ∀ i, own_nz (own_pick m i v) = decide (¬ own_bt m i = 0) := fun i => by
      unfold own_pick own_nz; by_cases h : own_bt m i = 0 <;> simp [h, hv]
    have hb := own_bt8 m
    obtain ⟨k, hk⟩ := own_low8' m
    have ht := own_tab k ⟨s, by omega⟩
    rw [← hk] at ht
    simp only at ht
    simp only [hv, not_false_eq_true, decide_true, Bool.true_and]
    rw [← ht]
    have hmap : (own_picks m v).map own_nz = [own_nb (m &&& 255) 0, own_nb (m &&& 255) 1, own_nb (m &&& 255) 2, own_nb (m &&& 255) 3, own_nb (m &&& 255) 4, own_nb (m &&& 255) 5, own_nb (m &&& 255) 6, own_nb (m &&& 255) 7] := by
      simp only [own_picks, List.map_cons, List.map_nil, hp, hb, own_nb]
    rw [← hmap, ← List.map_drop, List.any_map]
    rfl
theorem own_k (kk bb : Int32) : (1 + (kk &&& 7) : Int32) ≠ 0 ∧ (8 / (1 + (kk &&& 7)) + 1 : Int32) ≠ 0 ∧ ∃ sN : Nat, ((((bb &&& 2147483647) % (8 / (1 + (kk &&& 7)) + 1)) * (1 + (kk &&& 7)) : Int32).toInt = (sN : Int)) ∧ sN ≤ 8 := by
  have h1 : (kk &&& 7).toInt = kk.toInt % (2 ^ 3 : Nat) := c_mask kk 7 3 (by decide) (by decide)
  have h2 : (bb &&& 2147483647).toInt = bb.toInt % (2 ^ 31 : Nat) := c_mask bb _ 31 (by decide) (by decide)
  have hk : (kk &&& 7) = 0 ∨ (kk &&& 7) = 1 ∨ (kk &&& 7) = 2 ∨ (kk &&& 7) = 3 ∨ (kk &&& 7) = 4 ∨ (kk &&& 7) = 5 ∨ (kk &&& 7) = 6 ∨ (kk &&& 7) = 7 := by
    simp only [← Int32.toInt_inj, Int32.reduceToInt]; omega
  generalize (bb &&& 2147483647) = x at h2
  have main : ∀ (K q1 : Int32) (K' q' : Int), K.toInt = K' → q1.toInt = q' → 1 ≤ q' → 0 ≤ K' → (q' - 1) * K' ≤ 8 → ∃ sN : Nat, (((x % q1) * K : Int32).toInt = (sN : Int)) ∧ sN ≤ 8 := by
    intro K q1 K' q' e1 e2 hq hK0 hle
    have hr := (c_iremV x q1).1 (by omega) (by omega)
    have hm := c_imul (x % q1) K
    have hg := rng32 ((x % q1) * K)
    have hn : 0 ≤ (x % q1).toInt * K.toInt := Int.mul_nonneg hr.1 (by omega)
    have hu : (x % q1).toInt * K.toInt ≤ (q' - 1) * K.toInt := Int.mul_le_mul_of_nonneg_right (by omega) (by omega)
    rw [e1] at hn hu hm
    exact ⟨((x % q1) * K).toInt.toNat, by omega, by omega⟩
  rcases hk with h | h | h | h | h | h | h | h <;> rw [h]
  · exact ⟨by decide, by decide, main _ _ 1 9 (by decide) (by decide) (by decide) (by decide) (by decide)⟩
  · exact ⟨by decide, by decide, main _ _ 2 5 (by decide) (by decide) (by decide) (by decide) (by decide)⟩
  · exact ⟨by decide, by decide, main _ _ 3 3 (by decide) (by decide) (by decide) (by decide) (by decide)⟩
  · exact ⟨by decide, by decide, main _ _ 4 3 (by decide) (by decide) (by decide) (by decide) (by decide)⟩
  · exact ⟨by decide, by decide, main _ _ 5 2 (by decide) (by decide) (by decide) (by decide) (by decide)⟩
  · exact ⟨by decide, by decide, main _ _ 6 2 (by decide) (by decide) (by decide) (by decide) (by decide)⟩
  · exact ⟨by decide, by decide, main _ _ 7 2 (by decide) (by decide) (by decide) (by decide) (by decide)⟩
  · exact ⟨by decide, by decide, main _ _ 8 2 (by decide) (by decide) (by decide) (by decide) (by decide)⟩
theorem con1 {l : Launch} {Z : State} {a0 : Array Value} {n0 : Nat} (hw : Hw Z a0) (m i : Int32) (v : Int64) (H : Wp.MH) :
    C1 l Z a0 n0 #[.int m, .int i, .long v] H (fun r H' => r = some (.long (own_pick m i v)) ∧ H' = H) := by
  refine Wp.Con.intro pn1 (fun mm => ef1 mm m i v) ?_
  refine Wp.iloadN (pc' := 1) d1_0 rfl rfl ?_
  refine Wp.iloadN (pc' := 2) d1_1 rfl rfl ?_
  refine Wp.iushr (pc' := 3) d1_2 rfl ?_
  refine Wp.iconst (1) (pc' := 4) d1_3 rfl rfl ?_
  refine Wp.iand (pc' := 5) d1_4 rfl ?_
  refine Wp.if_eq (pt := 12) (pf := 8) d1_5 (by decide) rfl (fun hc5 => ?_) (fun hc5 => ?_)
  · refine Wp.lconst (0) (pc' := 13) d1_12 rfl rfl ?_
    refine Wp.lreturn rfl d1_13 ?_
    refine ⟨?_, rfl⟩
    unfold own_pick own_bt
    first | rw [if_pos hc5] | rw [if_neg hc5]
  · refine Wp.lloadN (pc' := 9) d1_8 rfl rfl ?_
    refine Wp.goto (pc' := 13) d1_9 (by decide) ?_
    refine Wp.lreturn rfl d1_13 ?_
    refine ⟨?_, rfl⟩
    unfold own_pick own_bt
    first | rw [if_pos hc5] | rw [if_neg hc5]
theorem con2 {l : Launch} {Z : State} {a0 : Array Value} {n0 : Nat} (hw : Hw Z a0) (xs : List Int64) (hlen : xs.length < 1000) (a : Addr) (n : Int64) (h : Int32) (sN : Nat) (hs : (n.toInt32 * h).toInt = (sN : Int)) (hle : sN ≤ xs.length) (H : Wp.MH) (hk : H[0]? = some (a, .inl (.long, xs.map Value.long))) :
    C2 l Z a0 n0 #[.ref a, .long n, .int h] H (fun r H' => r = some (.int (own_b ((xs.drop sN).any own_nz))) ∧ H' = H) := by
  refine Wp.Con.intro pn2 (fun m => ef2 m a n h) ?_
  generalize hR : (xs.drop sN).any own_nz = r
  generalize hQ : (fun (v : Option Value) (H' : Wp.MH) => v = some (.int (own_b r)) ∧ H' = H) = Q
  have hn : (Int32.ofNat (xs.map Value.long).length).toInt = xs.length := by
    rw [List.length_map]; exact Int32.toInt_ofNat_of_lt (by omega)
  generalize hN : Int32.ofNat (xs.map Value.long).length = ln at hn
  have K : ∀ (ys zs : List Int64) (j : Int32), xs = zs ++ ys → j.toInt = (zs.length : Int) → ys.any own_nz = r →
      W2 l Z a0 n0 0 0 6 [.val (.ref a), .val (.long n), .second, .val (.int h), .val (.int j)] [] H Q := by
    intro ys
    induction ys with
    | nil =>
      intro zs j hx hj hr
      have hl : xs.length = zs.length := by rw [hx]; simp
      refine Wp.iload (pc' := 8) d2_6 rfl rfl ?_
      refine Wp.aloadN (pc' := 9) d2_8 rfl rfl rfl ?_
      refine Wp.arraylength 0 ln (pc' := 10) d2_9 hk hN rfl ?_
      refine Wp.icmp_ge (pt := 30) (pf := 13) d2_10 (by decide) rfl (fun hc10 => ?_) (fun hc10 => ?_)
      · refine Wp.iconst (0) (pc' := 31) d2_30 rfl rfl ?_
        refine Wp.zreturn rfl d2_31 ?_
        subst hQ; exact ⟨own_b0 (by rw [← hr]; rfl), rfl⟩
      · exfalso; omega
    | cons y ys ih =>
      intro zs j hx hj hr
      have hl : xs.length = zs.length + (ys.length + 1) := by rw [hx]; simp
      refine Wp.iload (pc' := 8) d2_6 rfl rfl ?_
      refine Wp.aloadN (pc' := 9) d2_8 rfl rfl rfl ?_
      refine Wp.arraylength 0 ln (pc' := 10) d2_9 hk hN rfl ?_
      refine Wp.icmp_ge (pt := 30) (pf := 13) d2_10 (by decide) rfl (fun hc10 => ?_) (fun hc10 => ?_)
      · exfalso; omega
      · refine Wp.aloadN (pc' := 14) d2_13 rfl rfl rfl ?_
        refine Wp.iload (pc' := 16) d2_14 rfl rfl ?_
        refine Wp.laload 0 zs.length (v := .long y) (pc' := 17) d2_16 hk hj (by rw [hx]; simp) rfl ?_
        refine Wp.lconst (0) (pc' := 18) d2_17 rfl rfl ?_
        refine Wp.lcmp_eq (pt := 24) (pf := 22) d2_18 rfl d2_19 (by decide) rfl (fun hc19 => ?_) (fun hc19 => ?_)
        · refine Wp.iinc_4 (1) (pc' := 27) d2_24 rfl rfl ?_
          refine Wp.goto (pc' := 6) d2_27 (by decide) ?_
          exact ih (zs ++ [y]) _ (by rw [hx]; simp) (by rw [own_inc hj (by omega)]; simp) (by rw [← hr, List.any_cons, show own_nz y = false from decide_eq_false (by simp [hc19]), Bool.false_or])
        · refine Wp.iconst (1) (pc' := 23) d2_22 rfl rfl ?_
          refine Wp.zreturn rfl d2_23 ?_
          subst hQ; exact ⟨own_b1 (by rw [← hr, List.any_cons, show own_nz y = true from decide_eq_true hc19]; rfl), rfl⟩
  refine Wp.lloadN (pc' := 1) d2_0 rfl rfl ?_
  refine Wp.l2i (pc' := 2) d2_1 rfl ?_
  refine Wp.iloadN (pc' := 3) d2_2 rfl rfl ?_
  refine Wp.imul (pc' := 4) d2_3 rfl ?_
  refine Wp.istore_4 (pc' := 6) d2_4 rfl rfl ?_
  exact K (xs.drop sN) (xs.take sN) _ (by simp) (by rw [hs, List.length_take, Nat.min_eq_left hle]) hR
theorem law_con (l : Launch) (Z : State) (a0 : Array Value) (n0 : Nat) (hw : Hw Z a0) (m : Int32) (v : Int64) (kk bb : Int32) :
    C0 l Z a0 n0 #[.int m, .long v, .int kk, .int bb] [] (fun r _ => r = some (.int 1)) := by
  refine Wp.Con.intro pn0 (fun mm => ef0 mm m v kk bb) ?_
  obtain ⟨hk0, hq0, sN, hs, hs8⟩ := own_k kk bb
  generalize hK : (1 + (kk &&& 7) : Int32) = k at hk0 hq0 hs
  generalize hB : (bb &&& 2147483647) % (8 / k + 1) = b at hs
  have hst : b * k = Int32.ofNat sN := Int32.toInt_inj.mp (by rw [hs, Int32.toInt_ofNat_of_lt (by omega)])
  have hfin := own_fin m v sN hs8
  rw [← hst] at hfin
  have K154 : ∀ (a : Addr) (e : Bool), e = ((own_picks m v).drop sN).any own_nz → W0 l Z a0 n0 1 8 154 [.val (.int m), .val (.long v), .second, .val (.int kk), .val (.int bb), .val (.int k), .val (.int b), .val (.ref a), .val (.int (own_b (((own_picks m v).drop sN).any own_nz))), .val (.int (b * k)), .unset] [.int (own_b e)] [(a, .inl (.long, (own_picks m v).map Value.long))] (fun r _ => r = some (.int 1)) := by
    intro a e he
    subst he
    refine Wp.istore_10 (pc' := 156) at_154 rfl rfl ?_
    refine Wp.iload (pc' := 158) at_156 rfl rfl ?_
    refine Wp.iload (pc' := 160) at_158 rfl rfl ?_
    refine Wp.icmp_ne (pt := 167) (pf := 163) at_160 (by decide) rfl (fun hc160 => ?_) (fun hc160 => ?_)
    · exact absurd rfl hc160
    · refine Wp.iconst (1) (pc' := 164) at_163 rfl rfl ?_
      refine Wp.goto (pc' := 168) at_164 (by decide) ?_
      refine Wp.zreturn rfl at_168 ?_
      rfl
  refine Wp.iconst (1) (pc' := 1) at_0 rfl rfl ?_
  refine Wp.iloadN (pc' := 2) at_1 rfl rfl ?_
  refine Wp.bipush (7) (pc' := 4) at_2 rfl rfl ?_
  refine Wp.iand (pc' := 5) at_4 rfl ?_
  refine Wp.iadd (pc' := 6) at_5 rfl ?_
  rw [hK]
  refine Wp.istore_5 (pc' := 8) at_6 rfl rfl ?_
  refine Wp.iload (pc' := 10) at_8 rfl rfl ?_
  refine Wp.ldcI (pc' := 12) (w0 hw) at_10 rfl ?_
  refine Wp.iand (pc' := 13) at_12 rfl ?_
  refine Wp.bipush (8) (pc' := 15) at_13 rfl rfl ?_
  refine Wp.iload (pc' := 17) at_15 rfl rfl ?_
  refine Wp.idiv (pc' := 18) at_17 hk0 rfl ?_
  refine Wp.iconst (1) (pc' := 19) at_18 rfl rfl ?_
  refine Wp.iadd (pc' := 20) at_19 rfl ?_
  refine Wp.irem (pc' := 21) at_20 hq0 rfl ?_
  rw [hB]
  refine Wp.istore_6 (pc' := 23) at_21 rfl rfl ?_
  refine Wp.bipush (8) (pc' := 25) at_23 rfl rfl ?_
  refine Wp.newarray 8 8 [.long 0, .long 0, .long 0, .long 0, .long 0, .long 0, .long 0, .long 0] (pc' := 27) (cells' := 1) (slots' := 8) (ty := .long) (w1 hw) at_25 rfl (by decide) (by decide) (by decide) (by decide) rfl rfl rfl rfl rfl (fun a25 => ?_)
  refine Wp.astore_7 (pc' := 29) at_27 rfl rfl rfl rfl ?_
  refine Wp.aload (pc' := 31) at_29 rfl rfl rfl ?_
  refine Wp.iconst (0) (pc' := 32) at_31 rfl rfl ?_
  refine Wp.iloadN (pc' := 33) at_32 rfl rfl ?_
  refine Wp.iconst (0) (pc' := 34) at_33 rfl rfl ?_
  refine Wp.lloadN (pc' := 35) at_34 rfl rfl ?_
  refine Wp.callS_3 2 (pc' := 38) (cells' := 1) (slots' := 8)  (rm := rm1) (w2 hw) (w3 hw) (w4 hw) (w5 hw) (by decide) pd0 rfl at_35 rfl rfl (by decide) (by decide) (by decide) (by decide) rfl rfl rfl ?_
  refine (con1 hw _ _ _ _).mono ?_
  rintro _ _ ⟨rfl, rfl⟩
  refine Wp.afterS ?_
  refine Wp.lastore_0 0 (pc' := 39) at_38 rfl (by simp) rfl ?_
  try simp only [List.set_cons_zero, List.set_cons_succ]
  refine Wp.aload (pc' := 41) at_39 rfl rfl rfl ?_
  refine Wp.iconst (1) (pc' := 42) at_41 rfl rfl ?_
  refine Wp.iloadN (pc' := 43) at_42 rfl rfl ?_
  refine Wp.iconst (1) (pc' := 44) at_43 rfl rfl ?_
  refine Wp.lloadN (pc' := 45) at_44 rfl rfl ?_
  refine Wp.callS_3 2 (pc' := 48) (cells' := 1) (slots' := 8)  (rm := rm1) (w2 hw) (w3 hw) (w4 hw) (w5 hw) (by decide) pd0 rfl at_45 rfl rfl (by decide) (by decide) (by decide) (by decide) rfl rfl rfl ?_
  refine (con1 hw _ _ _ _).mono ?_
  rintro _ _ ⟨rfl, rfl⟩
  refine Wp.afterS ?_
  refine Wp.lastore_0 1 (pc' := 49) at_48 rfl (by simp) rfl ?_
  try simp only [List.set_cons_zero, List.set_cons_succ]
  refine Wp.aload (pc' := 51) at_49 rfl rfl rfl ?_
  refine Wp.iconst (2) (pc' := 52) at_51 rfl rfl ?_
  refine Wp.iloadN (pc' := 53) at_52 rfl rfl ?_
  refine Wp.iconst (2) (pc' := 54) at_53 rfl rfl ?_
  refine Wp.lloadN (pc' := 55) at_54 rfl rfl ?_
  refine Wp.callS_3 2 (pc' := 58) (cells' := 1) (slots' := 8)  (rm := rm1) (w2 hw) (w3 hw) (w4 hw) (w5 hw) (by decide) pd0 rfl at_55 rfl rfl (by decide) (by decide) (by decide) (by decide) rfl rfl rfl ?_
  refine (con1 hw _ _ _ _).mono ?_
  rintro _ _ ⟨rfl, rfl⟩
  refine Wp.afterS ?_
  refine Wp.lastore_0 2 (pc' := 59) at_58 rfl (by simp) rfl ?_
  try simp only [List.set_cons_zero, List.set_cons_succ]
  refine Wp.aload (pc' := 61) at_59 rfl rfl rfl ?_
  refine Wp.iconst (3) (pc' := 62) at_61 rfl rfl ?_
  refine Wp.iloadN (pc' := 63) at_62 rfl rfl ?_
  refine Wp.iconst (3) (pc' := 64) at_63 rfl rfl ?_
  refine Wp.lloadN (pc' := 65) at_64 rfl rfl ?_
  refine Wp.callS_3 2 (pc' := 68) (cells' := 1) (slots' := 8)  (rm := rm1) (w2 hw) (w3 hw) (w4 hw) (w5 hw) (by decide) pd0 rfl at_65 rfl rfl (by decide) (by decide) (by decide) (by decide) rfl rfl rfl ?_
  refine (con1 hw _ _ _ _).mono ?_
  rintro _ _ ⟨rfl, rfl⟩
  refine Wp.afterS ?_
  refine Wp.lastore_0 3 (pc' := 69) at_68 rfl (by simp) rfl ?_
  try simp only [List.set_cons_zero, List.set_cons_succ]
  refine Wp.aload (pc' := 71) at_69 rfl rfl rfl ?_
  refine Wp.iconst (4) (pc' := 72) at_71 rfl rfl ?_
  refine Wp.iloadN (pc' := 73) at_72 rfl rfl ?_
  refine Wp.iconst (4) (pc' := 74) at_73 rfl rfl ?_
  refine Wp.lloadN (pc' := 75) at_74 rfl rfl ?_
  refine Wp.callS_3 2 (pc' := 78) (cells' := 1) (slots' := 8)  (rm := rm1) (w2 hw) (w3 hw) (w4 hw) (w5 hw) (by decide) pd0 rfl at_75 rfl rfl (by decide) (by decide) (by decide) (by decide) rfl rfl rfl ?_
  refine (con1 hw _ _ _ _).mono ?_
  rintro _ _ ⟨rfl, rfl⟩
  refine Wp.afterS ?_
  refine Wp.lastore_0 4 (pc' := 79) at_78 rfl (by simp) rfl ?_
  try simp only [List.set_cons_zero, List.set_cons_succ]
  refine Wp.aload (pc' := 81) at_79 rfl rfl rfl ?_
  refine Wp.iconst (5) (pc' := 82) at_81 rfl rfl ?_
  refine Wp.iloadN (pc' := 83) at_82 rfl rfl ?_
  refine Wp.iconst (5) (pc' := 84) at_83 rfl rfl ?_
  refine Wp.lloadN (pc' := 85) at_84 rfl rfl ?_
  refine Wp.callS_3 2 (pc' := 88) (cells' := 1) (slots' := 8)  (rm := rm1) (w2 hw) (w3 hw) (w4 hw) (w5 hw) (by decide) pd0 rfl at_85 rfl rfl (by decide) (by decide) (by decide) (by decide) rfl rfl rfl ?_
  refine (con1 hw _ _ _ _).mono ?_
  rintro _ _ ⟨rfl, rfl⟩
  refine Wp.afterS ?_
  refine Wp.lastore_0 5 (pc' := 89) at_88 rfl (by simp) rfl ?_
  try simp only [List.set_cons_zero, List.set_cons_succ]
  refine Wp.aload (pc' := 91) at_89 rfl rfl rfl ?_
  refine Wp.bipush (6) (pc' := 93) at_91 rfl rfl ?_
  refine Wp.iloadN (pc' := 94) at_93 rfl rfl ?_
  refine Wp.bipush (6) (pc' := 96) at_94 rfl rfl ?_
  refine Wp.lloadN (pc' := 97) at_96 rfl rfl ?_
  refine Wp.callS_3 2 (pc' := 100) (cells' := 1) (slots' := 8)  (rm := rm1) (w2 hw) (w3 hw) (w4 hw) (w5 hw) (by decide) pd0 rfl at_97 rfl rfl (by decide) (by decide) (by decide) (by decide) rfl rfl rfl ?_
  refine (con1 hw _ _ _ _).mono ?_
  rintro _ _ ⟨rfl, rfl⟩
  refine Wp.afterS ?_
  refine Wp.lastore_0 6 (pc' := 101) at_100 rfl (by simp) rfl ?_
  try simp only [List.set_cons_zero, List.set_cons_succ]
  refine Wp.aload (pc' := 103) at_101 rfl rfl rfl ?_
  refine Wp.bipush (7) (pc' := 105) at_103 rfl rfl ?_
  refine Wp.iloadN (pc' := 106) at_105 rfl rfl ?_
  refine Wp.bipush (7) (pc' := 108) at_106 rfl rfl ?_
  refine Wp.lloadN (pc' := 109) at_108 rfl rfl ?_
  refine Wp.callS_3 2 (pc' := 112) (cells' := 1) (slots' := 8)  (rm := rm1) (w2 hw) (w3 hw) (w4 hw) (w5 hw) (by decide) pd0 rfl at_109 rfl rfl (by decide) (by decide) (by decide) (by decide) rfl rfl rfl ?_
  refine (con1 hw _ _ _ _).mono ?_
  rintro _ _ ⟨rfl, rfl⟩
  refine Wp.afterS ?_
  refine Wp.lastore_0 7 (pc' := 113) at_112 rfl (by simp) rfl ?_
  try simp only [List.set_cons_zero, List.set_cons_succ]
  refine Wp.aload (pc' := 115) at_113 rfl rfl rfl ?_
  refine Wp.iload (pc' := 117) at_115 rfl rfl ?_
  refine Wp.i2l (pc' := 118) at_117 rfl ?_
  refine Wp.iload (pc' := 120) at_118 rfl rfl ?_
  refine Wp.callS_3 0 (pc' := 123) (cells' := 1) (slots' := 8)  (rm := rm2) (w6 hw) (w7 hw) (w8 hw) (w9 hw) (by decide) pd1 rfl at_120 rfl rfl (by decide) (by decide) (by decide) (by decide) rfl rfl rfl ?_
  refine (con2 hw (own_picks m v) (by simp [own_picks]) _ _ _ sN (by rw [show (b.toInt64).toInt32 = b by simp]; exact hs) (by simpa [own_picks] using hs8) _ rfl).mono ?_
  rintro _ _ ⟨rfl, rfl⟩
  refine Wp.afterS ?_
  refine Wp.istore_8 (pc' := 125) at_123 rfl rfl ?_
  refine Wp.iload (pc' := 127) at_125 rfl rfl ?_
  refine Wp.iload (pc' := 129) at_127 rfl rfl ?_
  refine Wp.imul (pc' := 130) at_129 rfl ?_
  refine Wp.istore_9 (pc' := 132) at_130 rfl rfl ?_
  refine Wp.lloadN (pc' := 133) at_132 rfl rfl ?_
  refine Wp.lconst (0) (pc' := 134) at_133 rfl rfl ?_
  refine Wp.lcmp_eq (pt := 153) (pf := 138) at_134 rfl at_135 (by decide) rfl (fun hc135 => ?_) (fun hc135 => ?_)
  · refine Wp.iconst (0) (pc' := 154) at_153 rfl rfl ?_
    first | exact K154 _ true (by rw [hfin, decide_eq_true hc135, decide_eq_true hc146]; rfl) | exact K154 _ false (by rw [hfin, decide_eq_false (not_not_intro hc135)]; rfl) | exact K154 _ false (by rw [hfin, decide_eq_false (not_not_intro hc146), Bool.and_false])
  · refine Wp.iloadN (pc' := 139) at_138 rfl rfl ?_
    refine Wp.sipush (255) (pc' := 142) at_139 rfl rfl ?_
    refine Wp.iand (pc' := 143) at_142 rfl ?_
    refine Wp.iload (pc' := 145) at_143 rfl rfl ?_
    refine Wp.iushr (pc' := 146) at_145 rfl ?_
    refine Wp.if_eq (pt := 153) (pf := 149) at_146 (by decide) rfl (fun hc146 => ?_) (fun hc146 => ?_)
    · refine Wp.iconst (0) (pc' := 154) at_153 rfl rfl ?_
      first | exact K154 _ true (by rw [hfin, decide_eq_true hc135, decide_eq_true hc146]; rfl) | exact K154 _ false (by rw [hfin, decide_eq_false (not_not_intro hc135)]; rfl) | exact K154 _ false (by rw [hfin, decide_eq_false (not_not_intro hc146), Bool.and_false])
    · refine Wp.iconst (1) (pc' := 150) at_149 rfl rfl ?_
      refine Wp.goto (pc' := 154) at_150 (by decide) ?_
      first | exact K154 _ true (by rw [hfin, decide_eq_true hc135, decide_eq_true hc146]; rfl) | exact K154 _ false (by rw [hfin, decide_eq_false (not_not_intro hc135)]; rfl) | exact K154 _ false (by rw [hfin, decide_eq_false (not_not_intro hc146), Bool.and_false])
set_option maxRecDepth 65536 in
theorem comes_1 {Post : Tables → Env → Array Value → State → Outcome → State → Prop} (hpost : ∀ tb e args s v u, (limb_1_1.after args s (.returned v) u = true ∧ limb_1_2.after args s (.returned v) u = true ∧ True) → FrameEnd s (.returned v) u (Jvm.fieldLocs frame_1_writes args s ++ Jvm.arrayLocs frame_1_arrays args s ++ Jvm.staticLocs frame_1_statics s) room_1.cells room_1.slots → Post tb e args s (.returned v) u) :
    ArmFor flags0 classFile x code maxLocals ret World_1 tables_1 room_1 Calls_1 rest_1 Pre_1 Post := by
  intro l hfl _ _ p e ha hc hk s m args below hf hA hF happ hP
  obtain ⟨hcalls, hrest, hpre⟩ := hP
  obtain ⟨-, -, -, hnamed, -, -, -, hat⟩ := (Spec.applies_iff hf).mp happ
  obtain ⟨hg, hn⟩ := and_e (Cond.before_iff.mp (show (Jvm.Cond.and given_1 narrow_1).before args s = true from hpre))
  obtain ⟨hcnt, g0⟩ := and_e hg
  obtain ⟨y0, y1, y2, y3, rfl⟩ : ∃ y0 y1 y2 y3 : Value, args = #[y0, y1, y2, y3] := by
    have hs : args.size = 4 := by simpa [Cond.value, given_1] using hcnt
    obtain ⟨L⟩ := args
    match L, hs with
    | [y0, y1, y2, y3], _ => exact ⟨y0, y1, y2, y3, rfl⟩
  have hw := fun d (hd : d ∈ tables_1) => atoms_spec (ws := Jvm.Cond.code x code maxLocals ret :: tables_1) hat d (List.mem_cons_of_mem _ hd)
  obtain ⟨g0a, g1⟩ := and_e g0
  obtain ⟨i0, e0⟩ := is_v g0a
  obtain rfl : y0 = .int i0 := Option.some.inj e0
  obtain ⟨g1a, g2⟩ := and_e g1
  obtain ⟨i1, e1⟩ := isL_v g1a
  obtain rfl : y1 = .long i1 := Option.some.inj e1
  obtain ⟨g2a, g3⟩ := and_e g2
  obtain ⟨i2, e2⟩ := is_v g2a
  obtain rfl : y2 = .int i2 := Option.some.inj e2
  obtain ⟨i3, e3⟩ := is_v g3
  obtain rfl : y3 = .int i3 := Option.some.inj e3
  obtain ⟨n, o, h1, h2, h3, v, L, rfl, ⟨N, H', hR', rfl⟩, hq⟩ := law_con l s _ s.heap.size hw i0 i1 i2 i3 tables_1 s.heap ⟨Nat.le_refl _, List.nodup_nil, fun _ q => nomatch q⟩ p e ha hc hk s m _ below hf ((Spec.applies_iff_loose hf).mp happ).1 ⟨rfl, State.Warmed39.refl s, rfl⟩ trivial
  refine ⟨n, _, h1, h2, h3, hpost _ _ _ _ _ _ ⟨Cond.after_iff.mpr rfl, Cond.after_iff.mpr (eq_i res_at (Term.int_eval (1)) rfl), trivial⟩ ⟨hq.1, hq.2.1, (hq.2.2.sift fun y hy => Or.inr (N y hy)).mono (by decide) (by decide)⟩⟩
theorem main_1_1 : Claimed_1_1 := comes_1 fun _ _ _ _ _ _ h hF => ⟨h.1, hF⟩
theorem main_1_2 : Claimed_1_2 := comes_1 fun _ _ _ _ _ _ h hF => ⟨h.2.1, hF⟩
end Jvm.Pilot.@@N@@
namespace Jvm.Pilot.@@N@@
open Jvm Jvm.ClassFile Sem Op Lib Jvm.Free Jvm.Stand Jvm.Pilot.@@N@@.Jvm.D
/-! MADE BY PROGRAM (witnessworld.py) out of the Statement's table words and the real class files: 11 classes; the members and pool entries that the words name. The judged class is class 1, her method 2. -/
namespace start1
open Jvm.ClassFile
def u (s : String) : CpInfo := .utf8 (stringToUtf16 s)
/-- a pool by its gaps: so many unusable entries, then the entry; so many at the end -/
def gap : Nat → List CpInfo → List CpInfo
  | 0, r => r
  | n + 1, r => .unusable :: gap n r
def poolList (es : List (Nat × CpInfo)) (last : Nat) : List CpInfo := es.foldr (fun e r => gap e.1 (e.2 :: r)) (gap last [])
def pool (es : List (Nat × CpInfo)) (last : Nat) : Array CpInfo := ⟨poolList es last⟩
def fileOf (pool : Array CpInfo) (this : Nat) (attrs : Array Attribute := #[]) (ms : Array MethodInfo := #[]) (fl : Nat := 33) (sup : Nat := 0) (ifs : Array Nat := #[]) (fds : Array FieldInfo := #[]) : ClassFile where
  minorVersion := 0
  majorVersion := 65
  constantPool := pool
  accessFlags := fl
  thisClass := this
  superClass := sup
  interfaces := ifs
  fields := fds
  methods := ms
  attributes := attrs
def plain (name : String) (sup : Option ClassId) : Class where
  name := name
  kind := .ordinary
  loader := none
  accessFlags := 33
  super := sup
  interfaces := #[]
  cf := none
  fields := #[]
  methods := #[]
  instanceTypes := #[]
  staticTypes := #[]
  resolved := #[]
  callSites := []
  init := .initialized
  statics := none
  mirror := none

def pool0 : Array CpInfo := pool [(5, u "<init>"), (0, u "()V"), (1, .class_ 10), (1, u "java/lang/Object")] 113

def k0m0 : Method := { name := "<init>", desc := "()V", sig := { parameters := [], returnType := none }, accessFlags := 1, code := none }
/-- java/lang/Object -/
def k0 : Class := { plain "java/lang/Object" none with
  accessFlags := 33
  interfaces := #[]
  cf := some (fileOf pool0 8 #[] #[{ accessFlags := 1, nameIndex := 5, descriptorIndex := 6, attributes := #[] }] 33 0 #[] #[])
  fields := #[]
  methods := #[k0m0]
  instanceTypes := #[]
  staticTypes := #[]
  resolved := Array.replicate 124 none
  statics := none }

def pool1 : Array CpInfo := pool [(2, .class_ 4), (1, u "java/lang/Object"), (0, u "<init>"), (0, u "()V"), (0, .integer 2147483647), (0, .methodref 9 10), (0, .class_ 11), (0, .nameAndType 12 13), (0, u "com/example/slim_sieve/slimsieve/BlocksAnySetPastLastBlockPinLaw"), (0, u "pick"), (0, u "(IIJ)J"), (0, .methodref 15 16), (0, .class_ 17), (0, .nameAndType 18 19), (0, u "com/example/slim_sieve/slimsieve/Blocks"), (0, u "anySetPastLastBlock"), (0, u "([JJI)Z"), (3, u "law"), (0, u "(IJII)Z")] 4

def k1m0 : Method := { name := "<init>", desc := "()V", sig := { parameters := [], returnType := none }, accessFlags := 2, code := none }
def k1c1 : Code := { maxStack := 2, maxLocals := 4, code := method_2_code, exceptionTable := #[], attributes := #[] }
def k1m1 : Method := { name := "pick", desc := "(IIJ)J", sig := { parameters := [.int, .int, .long], returnType := some .long }, accessFlags := 10, code := some k1c1 }
def k1c2 : Code := { maxStack := 6, maxLocals := 11, code := code, exceptionTable := #[], attributes := #[] }
def k1m2 : Method := { name := "law", desc := "(IJII)Z", sig := { parameters := [.int, .long, .int, .int], returnType := some .boolean }, accessFlags := 9, code := some k1c2 }
/-- com/example/slim_sieve/slimsieve/BlocksAnySetPastLastBlockPinLaw -/
def k1 : Class := { plain "com/example/slim_sieve/slimsieve/BlocksAnySetPastLastBlockPinLaw" (some 0) with
  accessFlags := 49
  interfaces := #[]
  cf := some (fileOf pool1 9 #[] #[{ accessFlags := 2, nameIndex := 5, descriptorIndex := 6, attributes := #[] }, { accessFlags := 10, nameIndex := 12, descriptorIndex := 13, attributes := #[] }, { accessFlags := 9, nameIndex := 23, descriptorIndex := 24, attributes := #[] }] 49 2 #[] #[])
  fields := #[]
  methods := #[k1m0, k1m1, k1m2]
  instanceTypes := #[]
  staticTypes := #[]
  resolved := Array.replicate 29 none
  statics := none }

def pool2 : Array CpInfo := pool [(2, .class_ 4), (1, u "java/lang/Object"), (0, u "<init>"), (0, u "()V"), (25, .class_ 33), (0, u "com/example/slim_sieve/slimsieve/Blocks"), (0, u "SLICES"), (0, u "I"), (2, u "SLICE_BITS"), (10, u "anySetPastLastBlock"), (0, u "([JJI)Z")] 17

def k2m0 : Method := { name := "<init>", desc := "()V", sig := { parameters := [], returnType := none }, accessFlags := 2, code := none }
def k2c1 : Code := { maxStack := 4, maxLocals := 5, code := prog_3_method_6_code, exceptionTable := #[], attributes := #[] }
def k2m1 : Method := { name := "anySetPastLastBlock", desc := "([JJI)Z", sig := { parameters := [(.array .long), .long, .int], returnType := some .boolean }, accessFlags := 8, code := some k2c1 }
/-- com/example/slim_sieve/slimsieve/Blocks -/
def k2 : Class := { plain "com/example/slim_sieve/slimsieve/Blocks" (some 0) with
  accessFlags := 32
  interfaces := #[]
  cf := some (fileOf pool2 32 #[] #[{ accessFlags := 2, nameIndex := 5, descriptorIndex := 6, attributes := #[] }, { accessFlags := 8, nameIndex := 49, descriptorIndex := 50, attributes := #[] }] 32 2 #[] #[{ accessFlags := 24, nameIndex := 34, descriptorIndex := 35, attributes := #[] }, { accessFlags := 26, nameIndex := 38, descriptorIndex := 35, attributes := #[] }])
  fields := #[{ name := "SLICES", type := .int, accessFlags := 24, slot := 0, constantValue := 0 }, { name := "SLICE_BITS", type := .int, accessFlags := 26, slot := 1, constantValue := 0 }]
  methods := #[k2m0, k2m1]
  instanceTypes := #[]
  staticTypes := #[.int, .int]
  resolved := Array.replicate 68 none
  statics := none }

def pool3 : Array CpInfo := pool [(1, u "java/lang/Cloneable"), (0, .class_ 1), (0, u "java/lang/Object"), (0, .class_ 3)] 3

/-- java/lang/Cloneable -/
def k3 : Class := { plain "java/lang/Cloneable" (some 0) with
  accessFlags := 1537
  interfaces := #[]
  cf := some (fileOf pool3 2 #[] #[] 1537 4 #[] #[])
  fields := #[]
  methods := #[]
  instanceTypes := #[]
  staticTypes := #[]
  resolved := Array.replicate 8 none
  statics := none }

def pool4 : Array CpInfo := pool [(1, u "java/io/Serializable"), (0, .class_ 1), (0, u "java/lang/Object"), (0, .class_ 3)] 3

/-- java/io/Serializable -/
def k4 : Class := { plain "java/io/Serializable" (some 0) with
  accessFlags := 1537
  interfaces := #[]
  cf := some (fileOf pool4 2 #[] #[] 1537 4 #[] #[])
  fields := #[]
  methods := #[]
  instanceTypes := #[]
  staticTypes := #[]
  resolved := Array.replicate 8 none
  statics := none }

/-- the primitive byte -/
def k5 : Class := { plain "byte" none with kind := .primitive 'B', accessFlags := 0x411 }
/-- [B -/
def k6 : Class := { plain "[B" (some 0) with kind := .array 5 .byte, interfaces := #[3, 4], accessFlags := 1041 }

/-- the primitive int -/
def k7 : Class := { plain "int" none with kind := .primitive 'I', accessFlags := 0x411 }
/-- [I -/
def k8 : Class := { plain "[I" (some 0) with kind := .array 7 .int, interfaces := #[3, 4], accessFlags := 1041 }

/-- the primitive long -/
def k9 : Class := { plain "long" none with kind := .primitive 'J', accessFlags := 0x411 }
/-- [J -/
def k10 : Class := { plain "[J" (some 0) with kind := .array 9 .long, interfaces := #[3, 4], accessFlags := 1041 }

def heap : Heap := #[]
def classes : Array Class := #[k0, k1, k2, k3, k4, k5, k6, k7, k8, k9, k10]
def interned : List (Array UInt16 × Addr) := []
def slotsUsed : Nat := 0
def theMethod : MethodId := ⟨1, 2⟩
def args0 : Array Value := #[.int 5, .long 5, .int 5, .int 5]
def aboutOver (below : List Frame) : State where
  vm := { classes := classes, interned := interned.toArray }
  heap := heap
  slotsUsed := slotsUsed
  threads := #[{ frames := .invoking theMethod args0 :: below }]
def below0 : List Frame := [.native { method := ⟨0, 0⟩, args := #[] }]
def about1 : State := aboutOver below0
def p0 : Program := .bare "" "" ""
def e0 : Env := launch0.env 0 0 0
theorem w_frames : about1.frames = Frame.invoking theMethod args0 :: below0 := rfl
set_option maxRecDepth 65536 in
theorem w_args : argsFit about1.vm theMethod args0 = true := by decide +kernel
set_option maxRecDepth 65536 in
theorem w_heap : heapFits about1 = true := by decide +kernel
set_option maxRecDepth 65536 in
theorem w_runnable : about1.curStatus? = some .runnable := by decide +kernel
set_option maxRecDepth 65536 in
theorem w_alone : about1.alone = true := by decide +kernel
set_option maxRecDepth 65536 in
theorem w_named : about1.methodNamed? x = some theMethod := by decide +kernel
set_option maxRecDepth 65536 in
theorem w_hears : about1.hears theMethod below0 = true := by decide +kernel
set_option maxRecDepth 65536 in
theorem w_ripe : about1.ripe theMethod args0 below0 = true := by decide +kernel
theorem w_running : about1.status = .running := rfl
set_option maxRecDepth 65536 in
theorem w_room : about1.hasRoom e0.platform room_1 = true :=
  launch0.hasRoom_least _ room_1 (by decide +kernel) (by decide +kernel) (by decide +kernel) (by decide +kernel) (by decide +kernel) (by decide +kernel)
theorem allAtoms_all (ts : List Jvm.Cond) (a : Array Jvm.Value) (st : Jvm.State) : (allAtoms ts).before a st = ts.all (fun c => c.before a st) := by
  induction ts with
  | nil => rfl
  | cons c t ih =>
    show (Jvm.Cond.and c (allAtoms t)).before a st = _
    rw [Jvm.Cond.before_and, ih, List.all_cons]
def words1 : List Jvm.Cond := Jvm.Cond.code x code maxLocals ret :: tables_1
/-- a 'code' word, met by the world's own term for the bytes: nothing is compared byte by byte -/
theorem code_word {y : MethodName} {bytes : ByteArray} {mx : Nat} {rt : Option FieldType} {a : Array Value} {s : State} {m : MethodId} {meth : Method} {c : Code} (h1 : s.methodNamed? y = some m) (h2 : s.vm.method? m = some meth) (h3 : meth.code = some c) (h4 : c.code = bytes)
    (h5 : (c.maxLocals == mx && c.exceptionTable.isEmpty && decide (c.maxStack ≤ mostOperands) && decide (meth.sig.returnType = rt) && !meth.locks && decide (parseMethodDescriptor y.desc = some meth.sig)) = true) : (Jvm.Cond.code y bytes mx rt).before a s = true := by
  simp only [Bool.and_eq_true, beq_iff_eq, Bool.not_eq_true', decide_eq_true_eq] at h5
  obtain ⟨⟨⟨⟨⟨g1, g2⟩, g3⟩, g4⟩, g5⟩, g6⟩ := h5
  simp [Cond.before, Cond.holds, Cond.value, h1, h2, h3, h4, g1, g2, g3, g4, g5, g6]
def isCode : Jvm.Cond → Bool
  | .code _ _ _ _ => true
  | _ => false
theorem all_split {L : List Jvm.Cond} {P : Jvm.Cond → Bool} (h1 : L.all (fun c => isCode c || P c) = true) (h2 : ∀ c ∈ L.filter isCode, P c = true) : L.all P = true := by
  refine List.all_eq_true.mpr fun c hc => ?_
  have h := List.all_eq_true.mp h1 c hc
  rcases Bool.eq_false_or_eq_true (isCode c) with hi | hi
  · exact h2 c (List.mem_filter.mpr ⟨hc, hi⟩)
  · simpa [hi] using h
set_option maxRecDepth 65536 in
theorem w_c0 : (Jvm.Cond.code x code maxLocals ret).before args0 about1 = true := code_word (m := ⟨1, 2⟩) (meth := k1m2) (c := k1c2) (by decide +kernel) rfl rfl rfl (by decide +kernel)
set_option maxRecDepth 65536 in
theorem w_c1 : (Jvm.Cond.code ({ cls := "com/example/slim_sieve/slimsieve/BlocksAnySetPastLastBlockPinLaw", name := "pick", desc := "(IIJ)J" } : Jvm.MethodName) method_2_code (4 : Nat) (Option.some Jvm.ClassFile.FieldType.long)).before args0 about1 = true := code_word (m := ⟨1, 1⟩) (meth := k1m1) (c := k1c1) (by decide +kernel) rfl rfl rfl (by decide +kernel)
set_option maxRecDepth 65536 in
theorem w_c2 : (Jvm.Cond.code ({ cls := "com/example/slim_sieve/slimsieve/Blocks", name := "anySetPastLastBlock", desc := "([JJI)Z" } : Jvm.MethodName) prog_3_method_6_code (5 : Nat) (Option.some Jvm.ClassFile.FieldType.boolean)).before args0 about1 = true := code_word (m := ⟨2, 1⟩) (meth := k2m1) (c := k2c1) (by decide +kernel) rfl rfl rfl (by decide +kernel)
def codes1 : List Jvm.Cond := [Jvm.Cond.code x code maxLocals ret, Jvm.Cond.code ({ cls := "com/example/slim_sieve/slimsieve/BlocksAnySetPastLastBlockPinLaw", name := "pick", desc := "(IIJ)J" } : Jvm.MethodName) method_2_code (4 : Nat) (Option.some Jvm.ClassFile.FieldType.long), Jvm.Cond.code ({ cls := "com/example/slim_sieve/slimsieve/Blocks", name := "anySetPastLastBlock", desc := "([JJI)Z" } : Jvm.MethodName) prog_3_method_6_code (5 : Nat) (Option.some Jvm.ClassFile.FieldType.boolean)]
set_option maxRecDepth 65536 in
theorem codes_eq : words1.filter isCode = codes1 := rfl
theorem w_codes : ∀ c ∈ words1.filter isCode, c.before args0 about1 = true := by
  rw [codes_eq]
  intro c hc
  simp only [codes1, List.mem_cons, List.not_mem_nil, or_false] at hc
  rcases hc with rfl | rfl | rfl
  · exact w_c0
  · exact w_c1
  · exact w_c2
set_option maxRecDepth 65536 in
theorem w_t1 : words1.all (fun c => isCode c || c.before args0 about1) = true := by decide +kernel
theorem w_tables : (allAtoms (Jvm.Cond.code x code maxLocals ret :: tables_1)).before args0 about1 = true := by
  rw [allAtoms_all]
  show words1.all (fun c => c.before args0 about1) = true
  refine all_split ?_ w_codes
  rw [w_t1]
set_option maxRecDepth 65536 in
theorem w_case : (Jvm.Cond.and given_1 narrow_1).before args0 about1 = true := by decide +kernel
theorem w_applies : (headSpec (Jvm.Cond.code x code maxLocals ret :: tables_1) room_1).applies x e0.platform about1 = true :=
  (Spec.applies_iff w_frames).mpr ⟨w_running, w_runnable, w_alone, w_named, w_hears, w_ripe, w_room, w_tables⟩
theorem atStart : AtStart classFile x code maxLocals ret World_1 tables_1 room_1 Calls_1 rest_1 Pre_1 launch0 p0 e0 about1 theMethod args0 below0 :=
  ⟨lists_1, trivial, launch0.admits_env _ _ _, launch0.least_env, fairChoices_fair.cas, fairChoices_fair.clock, w_frames, w_args, w_heap, w_applies, trivial, trivial, w_case⟩
end start1
theorem witness_1 : WitnessClaimed_1 := ⟨start1.p0, start1.e0, start1.about1, start1.theMethod, start1.args0, start1.below0, start1.atStart⟩
end Jvm.Pilot.@@N@@
