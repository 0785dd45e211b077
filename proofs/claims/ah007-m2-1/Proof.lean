import JvmDerived
import JvmDerived.Pilot.@@N@@Statement
import JvmDerived.Pilot.@@N@@Code
set_option linter.unusedVariables false
set_option linter.unusedSimpArgs false
@@BLOCK:NumsL.lean.txt@@
namespace Jvm.Own
open Sem ClassFile Op Lib Jvm.Stand Jvm.Free Jvm.LawKit Jvm.RoadKit
/-- what is known of one object made since the law began: an array with all its values, or an object with some of its fields -/
abbrev D : Type := Sum (FieldType × List Value) (String × List ((String × String × String) × Value))
abbrev Hp : Type := List (Nat × D)
abbrev ia (xs : List Int32) : D := .inl (.int, xs.map Value.int)
abbrev la (xs : List Int64) : D := .inl (.long, xs.map Value.long)
abbrev ba (xs : List Int32) : D := .inl (.byte, xs.map Value.int)
def OkD (Z : State) (h : Heap) (a : Nat) (d : D) : Prop :=
  match d with
  | .inl q => ∃ c : Cell, Arr Z h a c q.1 ∧ c.slots = q.2.toArray ∧ Exa Z h a ("[" ++ q.1.toString)
  | .inr q => Exa Z h a q.1 ∧ ∀ (j : Nat) (f : (String × String × String) × Value), q.2[j]? = some f → Fld Z h a f.1.1 f.1.2.1 f.1.2.2 f.2
def HL (Z : State) (h0 : Heap) (ds : Hp) (h : Heap) : Prop :=
  Ext h0 h ∧ (∀ (i : Nat) (q : Nat × D), ds[i]? = some q → h0.size ≤ q.1 ∧ OkD Z h q.1 q.2) ∧ ∀ (i j : Nat) (q r : Nat × D), ds[i]? = some q → ds[j]? = some r → q.1 = r.1 → i = j
theorem OkD.lt {Z : State} {h : Heap} {a : Nat} {d : D} (O : OkD Z h a d) : a < h.size := by
  cases d with
  | inl q => obtain ⟨c, A, -⟩ := O; exact A.lt
  | inr q => exact O.1.lt
theorem OkD.ext {Z : State} {h h' : Heap} {a : Nat} {d : D} (E : Ext h h') (O : OkD Z h a d) : OkD Z h' a d := by
  cases d with
  | inl q => obtain ⟨c, A, S, X⟩ := O; exact ⟨c, A.ext E, S, X.ext E⟩
  | inr q => exact ⟨O.1.ext E, fun j f hf => (O.2 j f hf).ext E⟩
theorem OkD.other {Z : State} {h h' : Heap} {a b : Nat} {d : D} {sl : Nat} {v : Value} (W : Wr h h' a sl v) (O : OkD Z h b d) (hne : b ≠ a) : OkD Z h' b d := by
  cases d with
  | inl q => obtain ⟨c, A, S, X⟩ := O; exact ⟨c, A.other W hne, S, X.wr W⟩
  | inr q => exact ⟨O.1.wr W, fun j f hf => (O.2 j f hf).other W (Or.inl hne)⟩
theorem HL.nil (Z : State) (h0 : Heap) : HL Z h0 [] h0 :=
  ⟨⟨Nat.le_refl _, fun _ _ q => q⟩, fun i q hq => by simp at hq, fun i j q r hq => by simp at hq⟩
theorem HL.lts {Z : State} {h0 h : Heap} {ds : Hp} (H : HL Z h0 ds h) : ∀ q ∈ ds, q.1 < h.size := fun q hq => by
  obtain ⟨i, hi⟩ := List.mem_iff_getElem?.mp hq
  exact (H.2.1 i q hi).2.lt
theorem HL.new {Z : State} {h0 h h' : Heap} {ds : Hp} {d : D} (H : HL Z h0 ds h) (E : Ext h h') (O : OkD Z h' h.size d) : HL Z h0 (ds ++ [(h.size, d)]) h' := by
  refine ⟨⟨Nat.le_trans H.1.1 E.1, fun a c q => E.2 a c (H.1.2 a c q)⟩, fun i q hq => ?_, fun i j q r hq hr he => ?_⟩
  · rcases Nat.lt_or_ge i ds.length with hi | hi
    · rw [List.getElem?_append_left hi] at hq
      exact ⟨(H.2.1 i q hq).1, (H.2.1 i q hq).2.ext E⟩
    · rw [List.getElem?_append_right hi] at hq
      obtain ⟨hz, rfl⟩ : i - ds.length = 0 ∧ (h.size, d) = q := by
        rcases Nat.eq_zero_or_pos (i - ds.length) with z | z
        · rw [z] at hq; exact ⟨z, by simpa using hq⟩
        · rw [List.getElem?_eq_none (by simp; omega)] at hq; cases hq
      exact ⟨H.1.1, O⟩
  · have key : ∀ i (q : Nat × D), (ds ++ [(h.size, d)])[i]? = some q → (i < ds.length ∧ ds[i]? = some q ∧ q.1 < h.size) ∨ (i = ds.length ∧ q.1 = h.size) := fun i q hq => by
      rcases Nat.lt_or_ge i ds.length with hi | hi
      · rw [List.getElem?_append_left hi] at hq
        exact Or.inl ⟨hi, hq, (H.2.1 i q hq).2.lt⟩
      · rw [List.getElem?_append_right hi] at hq
        rcases Nat.eq_zero_or_pos (i - ds.length) with z | z
        · rw [z] at hq
          have e : (h.size, d) = q := by simpa using hq
          exact Or.inr ⟨by omega, by rw [← e]⟩
        · rw [List.getElem?_eq_none (by simp; omega)] at hq; cases hq
    rcases key i q hq with ⟨-, a2, a3⟩ | ⟨a1, a2⟩ <;> rcases key j r hr with ⟨-, b2, b3⟩ | ⟨b1, b2⟩
    · exact H.2.2 i j q r a2 b2 he
    · omega
    · omega
    · omega
theorem HL.set {Z : State} {h0 h h' : Heap} {ds : Hp} {i a sl : Nat} {d d' : D} {v : Value} (H : HL Z h0 ds h) (ha : ds[i]? = some (a, d)) (W : Wr h h' a sl v) (O : OkD Z h' a d') : HL Z h0 (ds.set i (a, d')) h' := by
  have hge := (H.2.1 i _ ha).1
  have hi : i < ds.length := (List.getElem?_eq_some_iff.mp ha).1
  have key : ∀ j (q : Nat × D), (ds.set i (a, d'))[j]? = some q → (j = i ∧ q = (a, d')) ∨ (j ≠ i ∧ ds[j]? = some q) := fun j q hq => by
    rw [List.getElem?_set] at hq
    by_cases e : i = j
    · subst e; rw [if_pos rfl, if_pos hi] at hq; exact Or.inl ⟨rfl, (Option.some.inj hq).symm⟩
    · rw [if_neg e] at hq; exact Or.inr ⟨fun x => e x.symm, hq⟩
  refine ⟨⟨by rw [W.size]; exact H.1.1, fun b c q => ?_⟩, fun j q hq => ?_, fun j k q r hq hr he => ?_⟩
  · have hb := H.1.2 b c q
    obtain ⟨c', e1, -, -, -, e5, -⟩ := wr_at W hb
    have hlt : b < h0.size := (Array.getElem?_eq_some_iff.mp q).1
    rw [← e5 (fun e => by subst e; exact absurd hlt (Nat.not_lt.mpr hge))]; exact e1
  · rcases key j q hq with ⟨-, rfl⟩ | ⟨hne, hq'⟩
    · exact ⟨hge, O⟩
    · exact ⟨(H.2.1 j q hq').1, (H.2.1 j q hq').2.other W fun e => hne (H.2.2 j i q _ hq' ha e)⟩
  · have ad : ∀ j (q : Nat × D), (ds.set i (a, d'))[j]? = some q → ∃ q' : Nat × D, ds[j]? = some q' ∧ q'.1 = q.1 := fun j q hq => by
      rcases key j q hq with ⟨rfl, rfl⟩ | ⟨-, hq'⟩
      · exact ⟨_, ha, rfl⟩
      · exact ⟨q, hq', rfl⟩
    obtain ⟨q', a1, a2⟩ := ad j q hq
    obtain ⟨r', b1, b2⟩ := ad k r hr
    exact H.2.2 j k q' r' a1 b1 (by rw [a2, b2]; exact he)
abbrev Cx : Type := Program × Launch × Env × Room × State × MethodId × Array Value × List Frame × Method × Code × State × Heap
/-- FROM HERE THE BODY RUNS TO ITS RETURN, and what it returns and leaves is as Q says -/
def Go (W : Cx) (Q : Option Value → Hp → Prop) (ds : Hp) (k n pc : Nat) (Ls : Array Slot) (st : List Value) : Prop :=
  match W with
  | (p, l, e, R, s, m, args, below, meth, c, Z, h0) =>
    ∀ (T : State) (L : List Loc), Fr h0.size L → Stand p l e R s m args below meth c T L k n → HL Z h0 ds T.heap →
      ∃ (s₂ : State) (v : Option Value), Steps p.tables e below (T.setTop (mkF m pc Ls st)) s₂ ∧ s₂.status = .running ∧ Ended s₂ below (.returned v) ∧
        ∃ (L' : List Loc) (ds' : Hp), Fr h0.size L' ∧ HL Z h0 ds' s₂.heap ∧ Q v ds' ∧ FrameEnd s (.returned v) s₂ L' R.cells R.slots
/-- what a body's walk knows -/
def Ok (W : Cx) (B : ByteArray) (y : MethodName) (rm : Room) (mL : Nat) (ret : Option FieldType) (l : Launch) (Z : State) (h0 : Heap) : Prop :=
  match W with
  | (p, l', _, R, s, m, _, _, meth, c, Z', h0') => p.tables.exec = Jvm.exec ∧ Z.Warmed39 s.vm ∧ c.code = B ∧ c.maxLocals = mL ∧ s.vm.findClass y.cls = some m.cls ∧ meth.sig.returnType = ret ∧ meth.locks = false ∧ meth.name = y.name ∧ R = rm ∧ l' = l ∧ Z' = Z ∧ h0' = h0
def Ct (l : Launch) (Z : State) (h0 : Heap) (y : MethodName) (B : ByteArray) (mL : Nat) (ret : Option FieldType) (ws : List Jvm.Cond) (rm : Room) (as : Array Value) (ds : Hp) (Q : Option Value → Hp → Prop) : Prop :=
  ∀ h, HL Z h0 ds h → MetFree l y (head1 (Jvm.Cond.code y B mL ret :: ws) rm) (fun a U => a = as ∧ Z.Warmed39 U.vm ∧ U.heap = h) (fun _ _ _ _ _ => True)
    (fun _ U o U' => ∃ v L, o = .returned v ∧ (Fr h0.size L ∧ ∃ ds', HL Z h0 ds' U'.heap ∧ Q v ds') ∧ FrameEnd U o U' L rm.cells rm.slots)
theorem Ct.of_go {l : Launch} {Z : State} {h0 : Heap} {y : MethodName} {B : ByteArray} {mL : Nat} {ret : Option FieldType} {ws : List Jvm.Cond} {rm : Room} {as : Array Value} {ds : Hp} {Q : Option Value → Hp → Prop} {Ls : Array Slot}
    (hpn : plainFor y = true) (ef : ∀ m, entryFrame m as mL = mkF m 0 Ls []) (body : ∀ W, Ok W B y rm mL ret l Z h0 → Go W Q ds 0 0 0 Ls []) : Ct l Z h0 y B mL ret ws rm as ds Q := by
  intro h H
  refine MetFree.of_bodySF hpn hisR ?_
  intro p e s m args below meth c s₁ Bd hml0 hP hK
  obtain ⟨rfl, hZ, hh⟩ := hP
  have X0 : Stand p l e rm s m args below meth c s₁ [] 0 0 := Stand.of_body Bd
  have e0 : s₁.heap = h := by rw [← hh, Bd.state]; rfl
  obtain ⟨s₂, v, h1, h2, h3, L', ds', h4, h5, h6, h7⟩ := body (p, l, e, rm, s, m, args, below, meth, c, Z, h0) ⟨Bd.exec, hZ, Bd.bytes, hml0, findClass_of_methodNamed Bd.named, Bd.returns, Bd.notSynchronized, (name_of_methodNamed Bd.named Bd.method).1, rfl, rfl, rfl, rfl⟩ s₁ [] (Fr.nil _) X0 (by rw [e0]; exact H)
  exact ⟨s₂, .returned v, castTop (ef m) h1, h2, h3, v, L', rfl, ⟨h4, ds', h5, h6⟩, h7⟩
theorem Ct.mono {l : Launch} {Z : State} {h0 : Heap} {y : MethodName} {B : ByteArray} {mL : Nat} {ret : Option FieldType} {ws : List Jvm.Cond} {rm : Room} {as : Array Value} {ds : Hp} {Q Q' : Option Value → Hp → Prop}
    (h : Ct l Z h0 y B mL ret ws rm as ds Q) (f : ∀ v ds', Q v ds' → Q' v ds') : Ct l Z h0 y B mL ret ws rm as ds Q' := by
  intro hp H p e ha hc hk s m args below hf happ hP hK
  obtain ⟨n, o, h1, h2, h3, v, L, h4, ⟨h5, ds', h6, h7⟩, h8⟩ := h hp H p e ha hc hk s m args below hf happ hP hK
  exact ⟨n, o, h1, h2, h3, v, L, h4, ⟨h5, ds', h6, f _ _ h7⟩, h8⟩
section Steps
variable {W : Cx} {B : ByteArray} {y : MethodName} {rm : Room} {mL : Nat} {ret : Option FieldType} {l : Launch} {Z : State} {h0 : Heap} {Q : Option Value → Hp → Prop} {ds : Hp} {k n pc pc' : Nat} {Ls Ls' : Array Slot} {st st' : List Value} {a0 : Array Value}
theorem Go.mono {Q' : Option Value → Hp → Prop} (g : Go W Q ds k n pc Ls st) (f : ∀ v ds', Q v ds' → Q' v ds') : Go W Q' ds k n pc Ls st := by
  obtain ⟨p, l, e, R, s, m, args, below, meth, c, Z, h0⟩ := W
  intro T L N X H
  obtain ⟨s₂, v, h1, h2, h3, L', ds', h4, h5, h6, h7⟩ := g T L N X H
  exact ⟨s₂, v, h1, h2, h3, L', ds', h4, h5, f _ _ h6, h7⟩
theorem go_of (K : Ok W B y rm mL ret l Z h0)
    (f : ∀ {p : Program} {l : Launch} {e : Env} {R : Room} {s : State} {m : MethodId} {args : Array Value} {below : List Frame} {meth : Method} {c : Code} {T : State} {L : List Loc}, p.tables.exec = Jvm.exec → c.code = B → s.vm.findClass y.cls = some m.cls → Z.Warmed39 s.vm →
      Stand p l e R s m args below meth c T L k n → ∀ t, Steps p.tables e below (T.setTop (mkF m pc' Ls' st')) t → Steps p.tables e below (T.setTop (mkF m pc Ls st)) t)
    (hr : Go W Q ds k n pc' Ls' st') : Go W Q ds k n pc Ls st := by
  obtain ⟨p, l, e, R, s, m, args, below, meth, c, Z, h0⟩ := W
  obtain ⟨k1, k2, k3, k4, k5, k6, k7, k8, rfl, rfl, rfl, rfl⟩ := K
  intro T L N X H
  obtain ⟨s₂, v, h1, rest⟩ := hr T L N X H
  exact ⟨s₂, v, f k1 k3 k5 k2 X s₂ h1, rest⟩

theorem go_iload (K : Ok W B y rm mL ret l Z h0) {i : Nat} {v : Int32} (hd : decode B pc = .ok (.iload i, 2)) (hl : Ls[i]? = some (.val (.int v))) (hp : pc + 2 = pc')
    (hr : Go W Q ds k n pc' Ls (.int v :: st)) : Go W Q ds k n pc Ls st := by
  subst hp
  exact go_of K (fun hx hby hown hZ X t h => XS.iload X.here hx rfl (hb hby hd) hl h) hr
theorem go_aload (K : Ok W B y rm mL ret l Z h0) {i : Nat} {v : Value} (hd : decode B pc = .ok (.aload i, 2)) (hl : Ls[i]? = some (.val v)) (hv : v.isRef = true) (hp : pc + 2 = pc')
    (hr : Go W Q ds k n pc' Ls (v :: st)) : Go W Q ds k n pc Ls st := by
  subst hp
  exact go_of K (fun hx hby hown hZ X t h => XS.aload X.here hx rfl (hb hby hd) hl hv h) hr
theorem go_lload (K : Ok W B y rm mL ret l Z h0) {i : Nat} {v : Int64} (hd : decode B pc = .ok (.lload i, 2)) (hl : Ls[i]? = some (.val (.long v))) (hp : pc + 2 = pc')
    (hr : Go W Q ds k n pc' Ls (.long v :: st)) : Go W Q ds k n pc Ls st := by
  subst hp
  exact go_of K (fun hx hby hown hZ X t h => XT.lload X.here hx rfl (hb hby hd) hl h) hr
theorem go_istore (K : Ok W B y rm mL ret l Z h0) {i : Nat} {x : Int32} (hd : decode B pc = .ok (.istore i, 2)) (hl : storeLocals Ls i (.int x) = some Ls') (hp : pc + 2 = pc')
    (hr : Go W Q ds k n pc' Ls' st) : Go W Q ds k n pc Ls (.int x :: st) := by
  subst hp
  exact go_of K (fun hx hby hown hZ X t h => XS.istore X.here hx rfl (hb hby hd) rfl hl h) hr
theorem go_astore (K : Ok W B y rm mL ret l Z h0) {i : Nat} {x : Value} (hd : decode B pc = .ok (.astore i, 2)) (hv : x.isRef = true) (hl : storeLocals Ls i x = some Ls') (hp : pc + 2 = pc')
    (hr : Go W Q ds k n pc' Ls' st) : Go W Q ds k n pc Ls (x :: st) := by
  subst hp
  exact go_of K (fun hx hby hown hZ X t h => XS.astore X.here hx rfl (hb hby hd) rfl hv hl h) hr
theorem go_lstore (K : Ok W B y rm mL ret l Z h0) {i : Nat} {x : Int64} (hd : decode B pc = .ok (.lstore i, 2)) (hl : storeLocals Ls i (.long x) = some Ls') (hp : pc + 2 = pc')
    (hr : Go W Q ds k n pc' Ls' st) : Go W Q ds k n pc Ls (.long x :: st) := by
  subst hp
  exact go_of K (fun hx hby hown hZ X t h => XT.lstore X.here hx rfl (hb hby hd) rfl hl h) hr
theorem go_iloadN (K : Ok W B y rm mL ret l Z h0) {i : Fin 4} {v : Int32} (hd : decode B pc = .ok (.iload_n i, 1)) (hl : Ls[i.val]? = some (.val (.int v))) (hp : pc + 1 = pc')
    (hr : Go W Q ds k n pc' Ls (.int v :: st)) : Go W Q ds k n pc Ls st := by
  subst hp
  exact go_of K (fun hx hby hown hZ X t h => XS.iloadN X.here hx rfl (hb hby hd) hl h) hr
theorem go_aloadN (K : Ok W B y rm mL ret l Z h0) {i : Fin 4} {v : Value} (hd : decode B pc = .ok (.aload_n i, 1)) (hl : Ls[i.val]? = some (.val v)) (hv : v.isRef = true) (hp : pc + 1 = pc')
    (hr : Go W Q ds k n pc' Ls (v :: st)) : Go W Q ds k n pc Ls st := by
  subst hp
  exact go_of K (fun hx hby hown hZ X t h => XS.aloadN X.here hx rfl (hb hby hd) hl hv h) hr
theorem go_lloadN (K : Ok W B y rm mL ret l Z h0) {i : Fin 4} {v : Int64} (hd : decode B pc = .ok (.lload_n i, 1)) (hl : Ls[i.val]? = some (.val (.long v))) (hp : pc + 1 = pc')
    (hr : Go W Q ds k n pc' Ls (.long v :: st)) : Go W Q ds k n pc Ls st := by
  subst hp
  exact go_of K (fun hx hby hown hZ X t h => XT.lloadN X.here hx rfl (hb hby hd) hl h) hr
theorem go_istoreN (K : Ok W B y rm mL ret l Z h0) {i : Fin 4} {x : Int32} (hd : decode B pc = .ok (.istore_n i, 1)) (hl : storeLocals Ls i.val (.int x) = some Ls') (hp : pc + 1 = pc')
    (hr : Go W Q ds k n pc' Ls' st) : Go W Q ds k n pc Ls (.int x :: st) := by
  subst hp
  exact go_of K (fun hx hby hown hZ X t h => XS.istoreN X.here hx rfl (hb hby hd) rfl hl h) hr
theorem go_astoreN (K : Ok W B y rm mL ret l Z h0) {i : Fin 4} {x : Value} (hd : decode B pc = .ok (.astore_n i, 1)) (hv : x.isRef = true) (hl : storeLocals Ls i.val x = some Ls') (hp : pc + 1 = pc')
    (hr : Go W Q ds k n pc' Ls' st) : Go W Q ds k n pc Ls (x :: st) := by
  subst hp
  exact go_of K (fun hx hby hown hZ X t h => XS.astoreN X.here hx rfl (hb hby hd) rfl hv hl h) hr
theorem go_lstoreN (K : Ok W B y rm mL ret l Z h0) {i : Fin 4} {x : Int64} (hd : decode B pc = .ok (.lstore_n i, 1)) (hl : storeLocals Ls i.val (.long x) = some Ls') (hp : pc + 1 = pc')
    (hr : Go W Q ds k n pc' Ls' st) : Go W Q ds k n pc Ls (.long x :: st) := by
  subst hp
  exact go_of K (fun hx hby hown hZ X t h => XT.lstoreN X.here hx rfl (hb hby hd) rfl hl h) hr
theorem go_iconst (K : Ok W B y rm mL ret l Z h0) {i : Int} {v : Int32} (hd : decode B pc = .ok (.iconst i, 1)) (hv : Int32.ofInt i = v) (hp : pc + 1 = pc')
    (hr : Go W Q ds k n pc' Ls (.int v :: st)) : Go W Q ds k n pc Ls st := by
  subst hp
  exact go_of K (fun hx hby hown hZ X t h => XT.iconstV X.here hx rfl v (hb hby hd) hv h) hr
theorem go_bipush (K : Ok W B y rm mL ret l Z h0) {i : Int} {v : Int32} (hd : decode B pc = .ok (.bipush i, 2)) (hv : (Int8.ofInt i).toInt32 = v) (hp : pc + 2 = pc')
    (hr : Go W Q ds k n pc' Ls (.int v :: st)) : Go W Q ds k n pc Ls st := by
  subst hp
  exact go_of K (fun hx hby hown hZ X t h => XT.bipushV X.here hx rfl v (hb hby hd) hv h) hr
theorem go_sipush (K : Ok W B y rm mL ret l Z h0) {i : Int} {v : Int32} (hd : decode B pc = .ok (.sipush i, 3)) (hv : (Int16.ofInt i).toInt32 = v) (hp : pc + 3 = pc')
    (hr : Go W Q ds k n pc' Ls (.int v :: st)) : Go W Q ds k n pc Ls st := by
  subst hp
  exact go_of K (fun hx hby hown hZ X t h => XT.sipushV X.here hx rfl v (hb hby hd) hv h) hr
theorem go_lconst (K : Ok W B y rm mL ret l Z h0) {i : Fin 2} {v : Int64} (hd : decode B pc = .ok (.lconst i, 1)) (hv : Int64.ofNat i = v) (hp : pc + 1 = pc')
    (hr : Go W Q ds k n pc' Ls (.long v :: st)) : Go W Q ds k n pc Ls st := by
  subst hp
  exact go_of K (fun hx hby hown hZ X t h => XT.lconstV X.here hx rfl v (hb hby hd) hv h) hr
theorem go_null (K : Ok W B y rm mL ret l Z h0)  (hd : decode B pc = .ok (.aconst_null, 1))  (hp : pc + 1 = pc')
    (hr : Go W Q ds k n pc' Ls (.null :: st)) : Go W Q ds k n pc Ls st := by
  subst hp
  exact go_of K (fun hx hby hown hZ X t h => XS.aconstNull X.here hx rfl (hb hby hd) h) hr
theorem go_iadd (K : Ok W B y rm mL ret l Z h0) {x z : Int32} (hd : decode B pc = .ok (.iadd, 1))  (hp : pc + 1 = pc')
    (hr : Go W Q ds k n pc' Ls (.int (x + z) :: st)) : Go W Q ds k n pc Ls (.int z :: .int x :: st) := by
  subst hp
  exact go_of K (fun hx hby hown hZ X t h => XS.iadd X.here hx rfl (hb hby hd) rfl h) hr
theorem go_isub (K : Ok W B y rm mL ret l Z h0) {x z : Int32} (hd : decode B pc = .ok (.isub, 1))  (hp : pc + 1 = pc')
    (hr : Go W Q ds k n pc' Ls (.int (x - z) :: st)) : Go W Q ds k n pc Ls (.int z :: .int x :: st) := by
  subst hp
  exact go_of K (fun hx hby hown hZ X t h => XS.isub X.here hx rfl (hb hby hd) rfl h) hr
theorem go_imul (K : Ok W B y rm mL ret l Z h0) {x z : Int32} (hd : decode B pc = .ok (.imul, 1))  (hp : pc + 1 = pc')
    (hr : Go W Q ds k n pc' Ls (.int (x * z) :: st)) : Go W Q ds k n pc Ls (.int z :: .int x :: st) := by
  subst hp
  exact go_of K (fun hx hby hown hZ X t h => XS.imul X.here hx rfl (hb hby hd) rfl h) hr
theorem go_iand (K : Ok W B y rm mL ret l Z h0) {x z : Int32} (hd : decode B pc = .ok (.iand, 1))  (hp : pc + 1 = pc')
    (hr : Go W Q ds k n pc' Ls (.int (x &&& z) :: st)) : Go W Q ds k n pc Ls (.int z :: .int x :: st) := by
  subst hp
  exact go_of K (fun hx hby hown hZ X t h => XS.iand X.here hx rfl (hb hby hd) rfl h) hr
theorem go_ior (K : Ok W B y rm mL ret l Z h0) {x z : Int32} (hd : decode B pc = .ok (.ior, 1))  (hp : pc + 1 = pc')
    (hr : Go W Q ds k n pc' Ls (.int (x ||| z) :: st)) : Go W Q ds k n pc Ls (.int z :: .int x :: st) := by
  subst hp
  exact go_of K (fun hx hby hown hZ X t h => XT.ior X.here hx rfl (hb hby hd) rfl h) hr
theorem go_ixor (K : Ok W B y rm mL ret l Z h0) {x z : Int32} (hd : decode B pc = .ok (.ixor, 1))  (hp : pc + 1 = pc')
    (hr : Go W Q ds k n pc' Ls (.int (x ^^^ z) :: st)) : Go W Q ds k n pc Ls (.int z :: .int x :: st) := by
  subst hp
  exact go_of K (fun hx hby hown hZ X t h => XT.ixor X.here hx rfl (hb hby hd) rfl h) hr
theorem go_ishl (K : Ok W B y rm mL ret l Z h0) {x z : Int32} (hd : decode B pc = .ok (.ishl, 1))  (hp : pc + 1 = pc')
    (hr : Go W Q ds k n pc' Ls (.int (x <<< (z &&& 31)) :: st)) : Go W Q ds k n pc Ls (.int z :: .int x :: st) := by
  subst hp
  exact go_of K (fun hx hby hown hZ X t h => XT.ishl X.here hx rfl (hb hby hd) rfl h) hr
theorem go_ishr (K : Ok W B y rm mL ret l Z h0) {x z : Int32} (hd : decode B pc = .ok (.ishr, 1))  (hp : pc + 1 = pc')
    (hr : Go W Q ds k n pc' Ls (.int (x >>> (z &&& 31)) :: st)) : Go W Q ds k n pc Ls (.int z :: .int x :: st) := by
  subst hp
  exact go_of K (fun hx hby hown hZ X t h => XT.ishr X.here hx rfl (hb hby hd) rfl h) hr
theorem go_iushr (K : Ok W B y rm mL ret l Z h0) {x z : Int32} (hd : decode B pc = .ok (.iushr, 1))  (hp : pc + 1 = pc')
    (hr : Go W Q ds k n pc' Ls (.int (XT.ushr x z) :: st)) : Go W Q ds k n pc Ls (.int z :: .int x :: st) := by
  subst hp
  exact go_of K (fun hx hby hown hZ X t h => XT.iushr X.here hx rfl (hb hby hd) rfl h) hr
theorem go_ladd (K : Ok W B y rm mL ret l Z h0) {x z : Int64} (hd : decode B pc = .ok (.ladd, 1))  (hp : pc + 1 = pc')
    (hr : Go W Q ds k n pc' Ls (.long (x + z) :: st)) : Go W Q ds k n pc Ls (.long z :: .long x :: st) := by
  subst hp
  exact go_of K (fun hx hby hown hZ X t h => XT.ladd X.here hx rfl (hb hby hd) rfl h) hr
theorem go_lsub (K : Ok W B y rm mL ret l Z h0) {x z : Int64} (hd : decode B pc = .ok (.lsub, 1))  (hp : pc + 1 = pc')
    (hr : Go W Q ds k n pc' Ls (.long (x - z) :: st)) : Go W Q ds k n pc Ls (.long z :: .long x :: st) := by
  subst hp
  exact go_of K (fun hx hby hown hZ X t h => XT.lsub X.here hx rfl (hb hby hd) rfl h) hr
theorem go_lmul (K : Ok W B y rm mL ret l Z h0) {x z : Int64} (hd : decode B pc = .ok (.lmul, 1))  (hp : pc + 1 = pc')
    (hr : Go W Q ds k n pc' Ls (.long (x * z) :: st)) : Go W Q ds k n pc Ls (.long z :: .long x :: st) := by
  subst hp
  exact go_of K (fun hx hby hown hZ X t h => XT.lmul X.here hx rfl (hb hby hd) rfl h) hr
theorem go_land (K : Ok W B y rm mL ret l Z h0) {x z : Int64} (hd : decode B pc = .ok (.land, 1))  (hp : pc + 1 = pc')
    (hr : Go W Q ds k n pc' Ls (.long (x &&& z) :: st)) : Go W Q ds k n pc Ls (.long z :: .long x :: st) := by
  subst hp
  exact go_of K (fun hx hby hown hZ X t h => XT.land X.here hx rfl (hb hby hd) rfl h) hr
theorem go_lor (K : Ok W B y rm mL ret l Z h0) {x z : Int64} (hd : decode B pc = .ok (.lor, 1))  (hp : pc + 1 = pc')
    (hr : Go W Q ds k n pc' Ls (.long (x ||| z) :: st)) : Go W Q ds k n pc Ls (.long z :: .long x :: st) := by
  subst hp
  exact go_of K (fun hx hby hown hZ X t h => XT.lor X.here hx rfl (hb hby hd) rfl h) hr
theorem go_lxor (K : Ok W B y rm mL ret l Z h0) {x z : Int64} (hd : decode B pc = .ok (.lxor, 1))  (hp : pc + 1 = pc')
    (hr : Go W Q ds k n pc' Ls (.long (x ^^^ z) :: st)) : Go W Q ds k n pc Ls (.long z :: .long x :: st) := by
  subst hp
  exact go_of K (fun hx hby hown hZ X t h => XT.lxor X.here hx rfl (hb hby hd) rfl h) hr
theorem go_lshl (K : Ok W B y rm mL ret l Z h0) {x : Int64} {z : Int32} (hd : decode B pc = .ok (.lshl, 1))  (hp : pc + 1 = pc')
    (hr : Go W Q ds k n pc' Ls (.long (x <<< (z.toInt64 &&& 63)) :: st)) : Go W Q ds k n pc Ls (.int z :: .long x :: st) := by
  subst hp
  exact go_of K (fun hx hby hown hZ X t h => XT.lshl X.here hx rfl (hb hby hd) rfl h) hr
theorem go_lshr (K : Ok W B y rm mL ret l Z h0) {x : Int64} {z : Int32} (hd : decode B pc = .ok (.lshr, 1))  (hp : pc + 1 = pc')
    (hr : Go W Q ds k n pc' Ls (.long (x >>> (z.toInt64 &&& 63)) :: st)) : Go W Q ds k n pc Ls (.int z :: .long x :: st) := by
  subst hp
  exact go_of K (fun hx hby hown hZ X t h => XT.lshr X.here hx rfl (hb hby hd) rfl h) hr
theorem go_lushr (K : Ok W B y rm mL ret l Z h0) {x : Int64} {z : Int32} (hd : decode B pc = .ok (.lushr, 1))  (hp : pc + 1 = pc')
    (hr : Go W Q ds k n pc' Ls (.long (XT.ushrL x z) :: st)) : Go W Q ds k n pc Ls (.int z :: .long x :: st) := by
  subst hp
  exact go_of K (fun hx hby hown hZ X t h => XT.lushr X.here hx rfl (hb hby hd) rfl h) hr
theorem go_idiv (K : Ok W B y rm mL ret l Z h0) {x z : Int32} (hd : decode B pc = .ok (.idiv, 1)) (hz : z ≠ 0) (hp : pc + 1 = pc')
    (hr : Go W Q ds k n pc' Ls (.int (x / z) :: st)) : Go W Q ds k n pc Ls (.int z :: .int x :: st) := by
  subst hp
  exact go_of K (fun hx hby hown hZ X t h => XS.idiv X.here hx rfl (hb hby hd) rfl hz h) hr
theorem go_irem (K : Ok W B y rm mL ret l Z h0) {x z : Int32} (hd : decode B pc = .ok (.irem, 1)) (hz : z ≠ 0) (hp : pc + 1 = pc')
    (hr : Go W Q ds k n pc' Ls (.int (x % z) :: st)) : Go W Q ds k n pc Ls (.int z :: .int x :: st) := by
  subst hp
  exact go_of K (fun hx hby hown hZ X t h => iremM X hx rfl (hb hby hd) rfl hz h) hr
theorem go_ldiv (K : Ok W B y rm mL ret l Z h0) {x z : Int64} (hd : decode B pc = .ok (.ldiv, 1)) (hz : z ≠ 0) (hp : pc + 1 = pc')
    (hr : Go W Q ds k n pc' Ls (.long (x / z) :: st)) : Go W Q ds k n pc Ls (.long z :: .long x :: st) := by
  subst hp
  exact go_of K (fun hx hby hown hZ X t h => XT.ldiv X.here hx rfl (hb hby hd) rfl hz h) hr
theorem go_ineg (K : Ok W B y rm mL ret l Z h0) {x : Int32} (hd : decode B pc = .ok (.ineg, 1))  (hp : pc + 1 = pc')
    (hr : Go W Q ds k n pc' Ls (.int (-x) :: st)) : Go W Q ds k n pc Ls (.int x :: st) := by
  subst hp
  exact go_of K (fun hx hby hown hZ X t h => XS.ineg X.here hx rfl (hb hby hd) rfl h) hr
theorem go_i2l (K : Ok W B y rm mL ret l Z h0) {x : Int32} (hd : decode B pc = .ok (.i2l, 1))  (hp : pc + 1 = pc')
    (hr : Go W Q ds k n pc' Ls (.long x.toInt64 :: st)) : Go W Q ds k n pc Ls (.int x :: st) := by
  subst hp
  exact go_of K (fun hx hby hown hZ X t h => XT.i2l X.here hx rfl (hb hby hd) rfl h) hr
theorem go_l2i (K : Ok W B y rm mL ret l Z h0) {x : Int64} (hd : decode B pc = .ok (.l2i, 1))  (hp : pc + 1 = pc')
    (hr : Go W Q ds k n pc' Ls (.int x.toInt32 :: st)) : Go W Q ds k n pc Ls (.long x :: st) := by
  subst hp
  exact go_of K (fun hx hby hown hZ X t h => XT.l2i X.here hx rfl (hb hby hd) rfl h) hr
theorem go_i2b (K : Ok W B y rm mL ret l Z h0) {x : Int32} (hd : decode B pc = .ok (.i2b, 1))  (hp : pc + 1 = pc')
    (hr : Go W Q ds k n pc' Ls (.int x.toInt8.toInt32 :: st)) : Go W Q ds k n pc Ls (.int x :: st) := by
  subst hp
  exact go_of K (fun hx hby hown hZ X t h => XT.i2b X.here hx rfl (hb hby hd) rfl h) hr
theorem go_i2c (K : Ok W B y rm mL ret l Z h0) {x : Int32} (hd : decode B pc = .ok (.i2c, 1))  (hp : pc + 1 = pc')
    (hr : Go W Q ds k n pc' Ls (.int x.toUInt32.toUInt16.toUInt32.toInt32 :: st)) : Go W Q ds k n pc Ls (.int x :: st) := by
  subst hp
  exact go_of K (fun hx hby hown hZ X t h => XT.i2c X.here hx rfl (hb hby hd) rfl h) hr
theorem go_lcmp (K : Ok W B y rm mL ret l Z h0) {x z : Int64} (hd : decode B pc = .ok (.lcmp, 1))  (hp : pc + 1 = pc')
    (hr : Go W Q ds k n pc' Ls (.int (XT.cmpL x z) :: st)) : Go W Q ds k n pc Ls (.long z :: .long x :: st) := by
  subst hp
  exact go_of K (fun hx hby hown hZ X t h => XT.lcmp X.here hx rfl (hb hby hd) rfl h) hr
theorem go_pop (K : Ok W B y rm mL ret l Z h0) {x : Value} (hd : decode B pc = .ok (.pop, 1)) (hc : x.category = 1) (hp : pc + 1 = pc')
    (hr : Go W Q ds k n pc' Ls st) : Go W Q ds k n pc Ls (x :: st) := by
  subst hp
  exact go_of K (fun hx hby hown hZ X t h => XT.pop X.here hx rfl (hb hby hd) rfl hc h) hr
theorem go_dup (K : Ok W B y rm mL ret l Z h0) {x : Value} (hd : decode B pc = .ok (.dup, 1)) (hc : x.category = 1) (hp : pc + 1 = pc')
    (hr : Go W Q ds k n pc' Ls (x :: x :: st)) : Go W Q ds k n pc Ls (x :: st) := by
  subst hp
  exact go_of K (fun hx hby hown hZ X t h => XS.dup X.here hx rfl (hb hby hd) rfl hc h) hr
theorem go_dup_x1 (K : Ok W B y rm mL ret l Z h0) {x z : Value} (hd : decode B pc = .ok (.dup_x1, 1)) (hc : x.category = 1) (hc' : z.category = 1) (hp : pc + 1 = pc')
    (hr : Go W Q ds k n pc' Ls (x :: z :: x :: st)) : Go W Q ds k n pc Ls (x :: z :: st) := by
  subst hp
  exact go_of K (fun hx hby hown hZ X t h => XT.dupX1 X.here hx rfl (hb hby hd) rfl hc hc' h) hr
theorem go_dup2 (K : Ok W B y rm mL ret l Z h0) {x z : Value} (hd : decode B pc = .ok (.dup2, 1)) (hc : x.category = 1) (hc' : z.category = 1) (hp : pc + 1 = pc')
    (hr : Go W Q ds k n pc' Ls (x :: z :: x :: z :: st)) : Go W Q ds k n pc Ls (x :: z :: st) := by
  subst hp
  exact go_of K (fun hx hby hown hZ X t h => XT.dup2 X.here hx rfl (hb hby hd) rfl hc hc' h) hr
theorem go_iinc (K : Ok W B y rm mL ret l Z h0) {i : Nat} {cst : Int} {x v : Int32} (hd : decode B pc = .ok (.iinc i cst, 3)) (hv : Int32.ofInt cst = v) (hl : Ls[i]? = some (.val (.int x))) (hl' : storeLocals Ls i (.int (x + v)) = some Ls') (hp : pc + 3 = pc')
    (hr : Go W Q ds k n pc' Ls' st) : Go W Q ds k n pc Ls st := by
  subst hp
  exact go_of K (fun hx hby hown hZ X t h => XT.iincV X.here hx rfl v (hb hby hd) hv hl hl' h) hr
theorem go_ldc (K : Ok W B y rm mL ret l Z h0) {i : Nat} {v : Int32} (hd : decode B pc = .ok (.ldc i, 2)) (w : (Jvm.Cond.constant y.cls i v).before a0 Z = true) (hp : pc + 2 = pc')
    (hr : Go W Q ds k n pc' Ls (.int v :: st)) : Go W Q ds k n pc Ls st := by
  subst hp
  exact go_of K (fun hx hby hown hZ X t h => X.ldcI hx hown (mv hZ w) rfl (hb hby hd) h) hr
theorem go_ldc2 (K : Ok W B y rm mL ret l Z h0) {i : Nat} {v : Int64} (hd : decode B pc = .ok (.ldc2_w i, 3)) (w : (Jvm.Cond.constantLong y.cls i v).before a0 Z = true) (hp : pc + 3 = pc')
    (hr : Go W Q ds k n pc' Ls (.long v :: st)) : Go W Q ds k n pc Ls st := by
  subst hp
  exact go_of K (fun hx hby hown hZ X t h => X.ldc2J hx hown (mv hZ w) rfl (hb hby hd) h) hr
theorem go_goto (K : Ok W B y rm mL ret l Z h0) {o : Int} (hd : decode B pc = .ok (.goto o, 3)) (ho : 0 ≤ (pc : Int) + o) (hp : ((pc : Int) + o).toNat = pc')
    (hr : Go W Q ds k n pc' Ls st) : Go W Q ds k n pc Ls st :=
  go_of K (fun hx hby hown hZ X t h => XS.goto X.here hx rfl rfl (hb hby hd) ho hp h) hr
theorem go_ifY (K : Ok W B y rm mL ret l Z h0) {o : Int} {cd : ClassFile.Cond} {x : Int32} (hd : decode B pc = .ok (.ifCond cd o, 3)) (hc : ifCond.holds cd x = true) (ho : 0 ≤ (pc : Int) + o) (hp : ((pc : Int) + o).toNat = pc')
    (hr : Go W Q ds k n pc' Ls st) : Go W Q ds k n pc Ls (.int x :: st) :=
  go_of K (fun hx hby hown hZ X t h => XS.ifYes X.here hx rfl rfl (hb hby hd) rfl hc ho hp h) hr
theorem go_ifN (K : Ok W B y rm mL ret l Z h0) {o : Int} {cd : ClassFile.Cond} {x : Int32} (hd : decode B pc = .ok (.ifCond cd o, 3)) (hc : ifCond.holds cd x = false) (hp : pc + 3 = pc')
    (hr : Go W Q ds k n pc' Ls st) : Go W Q ds k n pc Ls (.int x :: st) := by
  subst hp
  exact go_of K (fun hx hby hown hZ X t h => XS.ifNo X.here hx rfl (hb hby hd) rfl hc h) hr
theorem go_icY (K : Ok W B y rm mL ret l Z h0) {o : Int} {cd : ClassFile.Cond} {x z : Int32} (hd : decode B pc = .ok (.if_icmp cd o, 3)) (hc : if_icmp.holds cd x z = true) (ho : 0 ≤ (pc : Int) + o) (hp : ((pc : Int) + o).toNat = pc')
    (hr : Go W Q ds k n pc' Ls st) : Go W Q ds k n pc Ls (.int z :: .int x :: st) :=
  go_of K (fun hx hby hown hZ X t h => XS.icmpYes X.here hx rfl rfl (hb hby hd) rfl hc ho hp h) hr
theorem go_icN (K : Ok W B y rm mL ret l Z h0) {o : Int} {cd : ClassFile.Cond} {x z : Int32} (hd : decode B pc = .ok (.if_icmp cd o, 3)) (hc : if_icmp.holds cd x z = false) (hp : pc + 3 = pc')
    (hr : Go W Q ds k n pc' Ls st) : Go W Q ds k n pc Ls (.int z :: .int x :: st) := by
  subst hp
  exact go_of K (fun hx hby hown hZ X t h => XS.icmpNo X.here hx rfl (hb hby hd) rfl hc h) hr

theorem go_if_eq_t (K : Ok W B y rm mL ret l Z h0) {o : Int} {x : Int32} (hd : decode B pc = .ok (.ifCond .eq o, 3)) (hc : x = 0) (ho : 0 ≤ (pc : Int) + o) (hp : ((pc : Int) + o).toNat = pc')
    (hr : Go W Q ds k n pc' Ls st) : Go W Q ds k n pc Ls (.int x :: st) := go_ifY K hd (XT.i0_eq_t hc) ho hp hr
theorem go_if_eq_f (K : Ok W B y rm mL ret l Z h0) {o : Int} {x : Int32} (hd : decode B pc = .ok (.ifCond .eq o, 3)) (hc : x ≠ 0) (hp : pc + 3 = pc')
    (hr : Go W Q ds k n pc' Ls st) : Go W Q ds k n pc Ls (.int x :: st) := go_ifN K hd (XT.i0_eq_f hc) hp hr
theorem go_if_eq (K : Ok W B y rm mL ret l Z h0) {o : Int} {x : Int32} {pt : Nat} (hd : decode B pc = .ok (.ifCond .eq o, 3)) (ho : 0 ≤ (pc : Int) + o) (ht : ((pc : Int) + o).toNat = pt) (hp : pc + 3 = pc')
    (hy : x = 0 → Go W Q ds k n pt Ls st) (hn : x ≠ 0 → Go W Q ds k n pc' Ls st) : Go W Q ds k n pc Ls (.int x :: st) := by
  by_cases hc : x = 0
  · exact go_if_eq_t K hd hc ho ht (hy hc)
  · exact go_if_eq_f K hd (by first | exact hc | exact Int.not_lt.mp hc | exact Int.not_le.mp hc | exact Decidable.not_not.mp hc) hp (hn (by first | exact hc | exact Int.not_lt.mp hc | exact Int.not_le.mp hc | exact Decidable.not_not.mp hc))
theorem go_ic_eq_t (K : Ok W B y rm mL ret l Z h0) {o : Int} {x z : Int32} (hd : decode B pc = .ok (.if_icmp .eq o, 3)) (hc : x = z) (ho : 0 ≤ (pc : Int) + o) (hp : ((pc : Int) + o).toNat = pc')
    (hr : Go W Q ds k n pc' Ls st) : Go W Q ds k n pc Ls (.int z :: .int x :: st) := go_icY K hd (XT.ii_eq_t hc) ho hp hr
theorem go_ic_eq_f (K : Ok W B y rm mL ret l Z h0) {o : Int} {x z : Int32} (hd : decode B pc = .ok (.if_icmp .eq o, 3)) (hc : x ≠ z) (hp : pc + 3 = pc')
    (hr : Go W Q ds k n pc' Ls st) : Go W Q ds k n pc Ls (.int z :: .int x :: st) := go_icN K hd (XT.ii_eq_f hc) hp hr
theorem go_ic_eq (K : Ok W B y rm mL ret l Z h0) {o : Int} {x z : Int32} {pt : Nat} (hd : decode B pc = .ok (.if_icmp .eq o, 3)) (ho : 0 ≤ (pc : Int) + o) (ht : ((pc : Int) + o).toNat = pt) (hp : pc + 3 = pc')
    (hy : x = z → Go W Q ds k n pt Ls st) (hn : x ≠ z → Go W Q ds k n pc' Ls st) : Go W Q ds k n pc Ls (.int z :: .int x :: st) := by
  by_cases hc : x = z
  · exact go_ic_eq_t K hd hc ho ht (hy hc)
  · exact go_ic_eq_f K hd (by first | exact hc | exact Int.not_lt.mp hc | exact Int.not_le.mp hc | exact Decidable.not_not.mp hc) hp (hn (by first | exact hc | exact Int.not_lt.mp hc | exact Int.not_le.mp hc | exact Decidable.not_not.mp hc))
theorem go_if_ne_t (K : Ok W B y rm mL ret l Z h0) {o : Int} {x : Int32} (hd : decode B pc = .ok (.ifCond .ne o, 3)) (hc : x ≠ 0) (ho : 0 ≤ (pc : Int) + o) (hp : ((pc : Int) + o).toNat = pc')
    (hr : Go W Q ds k n pc' Ls st) : Go W Q ds k n pc Ls (.int x :: st) := go_ifY K hd (XT.i0_ne_t hc) ho hp hr
theorem go_if_ne_f (K : Ok W B y rm mL ret l Z h0) {o : Int} {x : Int32} (hd : decode B pc = .ok (.ifCond .ne o, 3)) (hc : x = 0) (hp : pc + 3 = pc')
    (hr : Go W Q ds k n pc' Ls st) : Go W Q ds k n pc Ls (.int x :: st) := go_ifN K hd (XT.i0_ne_f hc) hp hr
theorem go_if_ne (K : Ok W B y rm mL ret l Z h0) {o : Int} {x : Int32} {pt : Nat} (hd : decode B pc = .ok (.ifCond .ne o, 3)) (ho : 0 ≤ (pc : Int) + o) (ht : ((pc : Int) + o).toNat = pt) (hp : pc + 3 = pc')
    (hy : x ≠ 0 → Go W Q ds k n pt Ls st) (hn : x = 0 → Go W Q ds k n pc' Ls st) : Go W Q ds k n pc Ls (.int x :: st) := by
  by_cases hc : x ≠ 0
  · exact go_if_ne_t K hd hc ho ht (hy hc)
  · exact go_if_ne_f K hd (by first | exact hc | exact Int.not_lt.mp hc | exact Int.not_le.mp hc | exact Decidable.not_not.mp hc) hp (hn (by first | exact hc | exact Int.not_lt.mp hc | exact Int.not_le.mp hc | exact Decidable.not_not.mp hc))
theorem go_ic_ne_t (K : Ok W B y rm mL ret l Z h0) {o : Int} {x z : Int32} (hd : decode B pc = .ok (.if_icmp .ne o, 3)) (hc : x ≠ z) (ho : 0 ≤ (pc : Int) + o) (hp : ((pc : Int) + o).toNat = pc')
    (hr : Go W Q ds k n pc' Ls st) : Go W Q ds k n pc Ls (.int z :: .int x :: st) := go_icY K hd (XT.ii_ne_t hc) ho hp hr
theorem go_ic_ne_f (K : Ok W B y rm mL ret l Z h0) {o : Int} {x z : Int32} (hd : decode B pc = .ok (.if_icmp .ne o, 3)) (hc : x = z) (hp : pc + 3 = pc')
    (hr : Go W Q ds k n pc' Ls st) : Go W Q ds k n pc Ls (.int z :: .int x :: st) := go_icN K hd (XT.ii_ne_f hc) hp hr
theorem go_ic_ne (K : Ok W B y rm mL ret l Z h0) {o : Int} {x z : Int32} {pt : Nat} (hd : decode B pc = .ok (.if_icmp .ne o, 3)) (ho : 0 ≤ (pc : Int) + o) (ht : ((pc : Int) + o).toNat = pt) (hp : pc + 3 = pc')
    (hy : x ≠ z → Go W Q ds k n pt Ls st) (hn : x = z → Go W Q ds k n pc' Ls st) : Go W Q ds k n pc Ls (.int z :: .int x :: st) := by
  by_cases hc : x ≠ z
  · exact go_ic_ne_t K hd hc ho ht (hy hc)
  · exact go_ic_ne_f K hd (by first | exact hc | exact Int.not_lt.mp hc | exact Int.not_le.mp hc | exact Decidable.not_not.mp hc) hp (hn (by first | exact hc | exact Int.not_lt.mp hc | exact Int.not_le.mp hc | exact Decidable.not_not.mp hc))
theorem go_if_lt_t (K : Ok W B y rm mL ret l Z h0) {o : Int} {x : Int32} (hd : decode B pc = .ok (.ifCond .lt o, 3)) (hc : x.toInt < 0) (ho : 0 ≤ (pc : Int) + o) (hp : ((pc : Int) + o).toNat = pc')
    (hr : Go W Q ds k n pc' Ls st) : Go W Q ds k n pc Ls (.int x :: st) := go_ifY K hd (XT.i0_lt_t (Int32.lt_iff_toInt_lt.mpr hc)) ho hp hr
theorem go_if_lt_f (K : Ok W B y rm mL ret l Z h0) {o : Int} {x : Int32} (hd : decode B pc = .ok (.ifCond .lt o, 3)) (hc : 0 ≤ x.toInt) (hp : pc + 3 = pc')
    (hr : Go W Q ds k n pc' Ls st) : Go W Q ds k n pc Ls (.int x :: st) := go_ifN K hd (XT.i0_lt_f (fun q => absurd (Int32.lt_iff_toInt_lt.mp q) (Int.not_lt.mpr hc))) hp hr
theorem go_if_lt (K : Ok W B y rm mL ret l Z h0) {o : Int} {x : Int32} {pt : Nat} (hd : decode B pc = .ok (.ifCond .lt o, 3)) (ho : 0 ≤ (pc : Int) + o) (ht : ((pc : Int) + o).toNat = pt) (hp : pc + 3 = pc')
    (hy : x.toInt < 0 → Go W Q ds k n pt Ls st) (hn : 0 ≤ x.toInt → Go W Q ds k n pc' Ls st) : Go W Q ds k n pc Ls (.int x :: st) := by
  by_cases hc : x.toInt < 0
  · exact go_if_lt_t K hd hc ho ht (hy hc)
  · exact go_if_lt_f K hd (by first | exact hc | exact Int.not_lt.mp hc | exact Int.not_le.mp hc | exact Decidable.not_not.mp hc) hp (hn (by first | exact hc | exact Int.not_lt.mp hc | exact Int.not_le.mp hc | exact Decidable.not_not.mp hc))
theorem go_ic_lt_t (K : Ok W B y rm mL ret l Z h0) {o : Int} {x z : Int32} (hd : decode B pc = .ok (.if_icmp .lt o, 3)) (hc : x.toInt < z.toInt) (ho : 0 ≤ (pc : Int) + o) (hp : ((pc : Int) + o).toNat = pc')
    (hr : Go W Q ds k n pc' Ls st) : Go W Q ds k n pc Ls (.int z :: .int x :: st) := go_icY K hd (XT.ii_lt_t (Int32.lt_iff_toInt_lt.mpr hc)) ho hp hr
theorem go_ic_lt_f (K : Ok W B y rm mL ret l Z h0) {o : Int} {x z : Int32} (hd : decode B pc = .ok (.if_icmp .lt o, 3)) (hc : z.toInt ≤ x.toInt) (hp : pc + 3 = pc')
    (hr : Go W Q ds k n pc' Ls st) : Go W Q ds k n pc Ls (.int z :: .int x :: st) := go_icN K hd (XT.ii_lt_f (fun q => absurd (Int32.lt_iff_toInt_lt.mp q) (Int.not_lt.mpr hc))) hp hr
theorem go_ic_lt (K : Ok W B y rm mL ret l Z h0) {o : Int} {x z : Int32} {pt : Nat} (hd : decode B pc = .ok (.if_icmp .lt o, 3)) (ho : 0 ≤ (pc : Int) + o) (ht : ((pc : Int) + o).toNat = pt) (hp : pc + 3 = pc')
    (hy : x.toInt < z.toInt → Go W Q ds k n pt Ls st) (hn : z.toInt ≤ x.toInt → Go W Q ds k n pc' Ls st) : Go W Q ds k n pc Ls (.int z :: .int x :: st) := by
  by_cases hc : x.toInt < z.toInt
  · exact go_ic_lt_t K hd hc ho ht (hy hc)
  · exact go_ic_lt_f K hd (by first | exact hc | exact Int.not_lt.mp hc | exact Int.not_le.mp hc | exact Decidable.not_not.mp hc) hp (hn (by first | exact hc | exact Int.not_lt.mp hc | exact Int.not_le.mp hc | exact Decidable.not_not.mp hc))
theorem go_if_ge_t (K : Ok W B y rm mL ret l Z h0) {o : Int} {x : Int32} (hd : decode B pc = .ok (.ifCond .ge o, 3)) (hc : 0 ≤ x.toInt) (ho : 0 ≤ (pc : Int) + o) (hp : ((pc : Int) + o).toNat = pc')
    (hr : Go W Q ds k n pc' Ls st) : Go W Q ds k n pc Ls (.int x :: st) := go_ifY K hd (XT.i0_ge_t (fun q => absurd (Int32.lt_iff_toInt_lt.mp q) (Int.not_lt.mpr hc))) ho hp hr
theorem go_if_ge_f (K : Ok W B y rm mL ret l Z h0) {o : Int} {x : Int32} (hd : decode B pc = .ok (.ifCond .ge o, 3)) (hc : x.toInt < 0) (hp : pc + 3 = pc')
    (hr : Go W Q ds k n pc' Ls st) : Go W Q ds k n pc Ls (.int x :: st) := go_ifN K hd (XT.i0_ge_f (Int32.lt_iff_toInt_lt.mpr hc)) hp hr
theorem go_if_ge (K : Ok W B y rm mL ret l Z h0) {o : Int} {x : Int32} {pt : Nat} (hd : decode B pc = .ok (.ifCond .ge o, 3)) (ho : 0 ≤ (pc : Int) + o) (ht : ((pc : Int) + o).toNat = pt) (hp : pc + 3 = pc')
    (hy : 0 ≤ x.toInt → Go W Q ds k n pt Ls st) (hn : x.toInt < 0 → Go W Q ds k n pc' Ls st) : Go W Q ds k n pc Ls (.int x :: st) := by
  by_cases hc : 0 ≤ x.toInt
  · exact go_if_ge_t K hd hc ho ht (hy hc)
  · exact go_if_ge_f K hd (by first | exact hc | exact Int.not_lt.mp hc | exact Int.not_le.mp hc | exact Decidable.not_not.mp hc) hp (hn (by first | exact hc | exact Int.not_lt.mp hc | exact Int.not_le.mp hc | exact Decidable.not_not.mp hc))
theorem go_ic_ge_t (K : Ok W B y rm mL ret l Z h0) {o : Int} {x z : Int32} (hd : decode B pc = .ok (.if_icmp .ge o, 3)) (hc : z.toInt ≤ x.toInt) (ho : 0 ≤ (pc : Int) + o) (hp : ((pc : Int) + o).toNat = pc')
    (hr : Go W Q ds k n pc' Ls st) : Go W Q ds k n pc Ls (.int z :: .int x :: st) := go_icY K hd (XT.ii_ge_t (fun q => absurd (Int32.lt_iff_toInt_lt.mp q) (Int.not_lt.mpr hc))) ho hp hr
theorem go_ic_ge_f (K : Ok W B y rm mL ret l Z h0) {o : Int} {x z : Int32} (hd : decode B pc = .ok (.if_icmp .ge o, 3)) (hc : x.toInt < z.toInt) (hp : pc + 3 = pc')
    (hr : Go W Q ds k n pc' Ls st) : Go W Q ds k n pc Ls (.int z :: .int x :: st) := go_icN K hd (XT.ii_ge_f (Int32.lt_iff_toInt_lt.mpr hc)) hp hr
theorem go_ic_ge (K : Ok W B y rm mL ret l Z h0) {o : Int} {x z : Int32} {pt : Nat} (hd : decode B pc = .ok (.if_icmp .ge o, 3)) (ho : 0 ≤ (pc : Int) + o) (ht : ((pc : Int) + o).toNat = pt) (hp : pc + 3 = pc')
    (hy : z.toInt ≤ x.toInt → Go W Q ds k n pt Ls st) (hn : x.toInt < z.toInt → Go W Q ds k n pc' Ls st) : Go W Q ds k n pc Ls (.int z :: .int x :: st) := by
  by_cases hc : z.toInt ≤ x.toInt
  · exact go_ic_ge_t K hd hc ho ht (hy hc)
  · exact go_ic_ge_f K hd (by first | exact hc | exact Int.not_lt.mp hc | exact Int.not_le.mp hc | exact Decidable.not_not.mp hc) hp (hn (by first | exact hc | exact Int.not_lt.mp hc | exact Int.not_le.mp hc | exact Decidable.not_not.mp hc))
theorem go_if_gt_t (K : Ok W B y rm mL ret l Z h0) {o : Int} {x : Int32} (hd : decode B pc = .ok (.ifCond .gt o, 3)) (hc : 0 < x.toInt) (ho : 0 ≤ (pc : Int) + o) (hp : ((pc : Int) + o).toNat = pc')
    (hr : Go W Q ds k n pc' Ls st) : Go W Q ds k n pc Ls (.int x :: st) := go_ifY K hd (XT.i0_gt_t (Int32.lt_iff_toInt_lt.mpr hc)) ho hp hr
theorem go_if_gt_f (K : Ok W B y rm mL ret l Z h0) {o : Int} {x : Int32} (hd : decode B pc = .ok (.ifCond .gt o, 3)) (hc : x.toInt ≤ 0) (hp : pc + 3 = pc')
    (hr : Go W Q ds k n pc' Ls st) : Go W Q ds k n pc Ls (.int x :: st) := go_ifN K hd (XT.i0_gt_f (fun q => absurd (Int32.lt_iff_toInt_lt.mp q) (Int.not_lt.mpr hc))) hp hr
theorem go_if_gt (K : Ok W B y rm mL ret l Z h0) {o : Int} {x : Int32} {pt : Nat} (hd : decode B pc = .ok (.ifCond .gt o, 3)) (ho : 0 ≤ (pc : Int) + o) (ht : ((pc : Int) + o).toNat = pt) (hp : pc + 3 = pc')
    (hy : 0 < x.toInt → Go W Q ds k n pt Ls st) (hn : x.toInt ≤ 0 → Go W Q ds k n pc' Ls st) : Go W Q ds k n pc Ls (.int x :: st) := by
  by_cases hc : 0 < x.toInt
  · exact go_if_gt_t K hd hc ho ht (hy hc)
  · exact go_if_gt_f K hd (by first | exact hc | exact Int.not_lt.mp hc | exact Int.not_le.mp hc | exact Decidable.not_not.mp hc) hp (hn (by first | exact hc | exact Int.not_lt.mp hc | exact Int.not_le.mp hc | exact Decidable.not_not.mp hc))
theorem go_ic_gt_t (K : Ok W B y rm mL ret l Z h0) {o : Int} {x z : Int32} (hd : decode B pc = .ok (.if_icmp .gt o, 3)) (hc : z.toInt < x.toInt) (ho : 0 ≤ (pc : Int) + o) (hp : ((pc : Int) + o).toNat = pc')
    (hr : Go W Q ds k n pc' Ls st) : Go W Q ds k n pc Ls (.int z :: .int x :: st) := go_icY K hd (XT.ii_gt_t (Int32.lt_iff_toInt_lt.mpr hc)) ho hp hr
theorem go_ic_gt_f (K : Ok W B y rm mL ret l Z h0) {o : Int} {x z : Int32} (hd : decode B pc = .ok (.if_icmp .gt o, 3)) (hc : x.toInt ≤ z.toInt) (hp : pc + 3 = pc')
    (hr : Go W Q ds k n pc' Ls st) : Go W Q ds k n pc Ls (.int z :: .int x :: st) := go_icN K hd (XT.ii_gt_f (fun q => absurd (Int32.lt_iff_toInt_lt.mp q) (Int.not_lt.mpr hc))) hp hr
theorem go_ic_gt (K : Ok W B y rm mL ret l Z h0) {o : Int} {x z : Int32} {pt : Nat} (hd : decode B pc = .ok (.if_icmp .gt o, 3)) (ho : 0 ≤ (pc : Int) + o) (ht : ((pc : Int) + o).toNat = pt) (hp : pc + 3 = pc')
    (hy : z.toInt < x.toInt → Go W Q ds k n pt Ls st) (hn : x.toInt ≤ z.toInt → Go W Q ds k n pc' Ls st) : Go W Q ds k n pc Ls (.int z :: .int x :: st) := by
  by_cases hc : z.toInt < x.toInt
  · exact go_ic_gt_t K hd hc ho ht (hy hc)
  · exact go_ic_gt_f K hd (by first | exact hc | exact Int.not_lt.mp hc | exact Int.not_le.mp hc | exact Decidable.not_not.mp hc) hp (hn (by first | exact hc | exact Int.not_lt.mp hc | exact Int.not_le.mp hc | exact Decidable.not_not.mp hc))
theorem go_if_le_t (K : Ok W B y rm mL ret l Z h0) {o : Int} {x : Int32} (hd : decode B pc = .ok (.ifCond .le o, 3)) (hc : x.toInt ≤ 0) (ho : 0 ≤ (pc : Int) + o) (hp : ((pc : Int) + o).toNat = pc')
    (hr : Go W Q ds k n pc' Ls st) : Go W Q ds k n pc Ls (.int x :: st) := go_ifY K hd (XT.i0_le_t (fun q => absurd (Int32.lt_iff_toInt_lt.mp q) (Int.not_lt.mpr hc))) ho hp hr
theorem go_if_le_f (K : Ok W B y rm mL ret l Z h0) {o : Int} {x : Int32} (hd : decode B pc = .ok (.ifCond .le o, 3)) (hc : 0 < x.toInt) (hp : pc + 3 = pc')
    (hr : Go W Q ds k n pc' Ls st) : Go W Q ds k n pc Ls (.int x :: st) := go_ifN K hd (XT.i0_le_f (Int32.lt_iff_toInt_lt.mpr hc)) hp hr
theorem go_if_le (K : Ok W B y rm mL ret l Z h0) {o : Int} {x : Int32} {pt : Nat} (hd : decode B pc = .ok (.ifCond .le o, 3)) (ho : 0 ≤ (pc : Int) + o) (ht : ((pc : Int) + o).toNat = pt) (hp : pc + 3 = pc')
    (hy : x.toInt ≤ 0 → Go W Q ds k n pt Ls st) (hn : 0 < x.toInt → Go W Q ds k n pc' Ls st) : Go W Q ds k n pc Ls (.int x :: st) := by
  by_cases hc : x.toInt ≤ 0
  · exact go_if_le_t K hd hc ho ht (hy hc)
  · exact go_if_le_f K hd (by first | exact hc | exact Int.not_lt.mp hc | exact Int.not_le.mp hc | exact Decidable.not_not.mp hc) hp (hn (by first | exact hc | exact Int.not_lt.mp hc | exact Int.not_le.mp hc | exact Decidable.not_not.mp hc))
theorem go_ic_le_t (K : Ok W B y rm mL ret l Z h0) {o : Int} {x z : Int32} (hd : decode B pc = .ok (.if_icmp .le o, 3)) (hc : x.toInt ≤ z.toInt) (ho : 0 ≤ (pc : Int) + o) (hp : ((pc : Int) + o).toNat = pc')
    (hr : Go W Q ds k n pc' Ls st) : Go W Q ds k n pc Ls (.int z :: .int x :: st) := go_icY K hd (XT.ii_le_t (fun q => absurd (Int32.lt_iff_toInt_lt.mp q) (Int.not_lt.mpr hc))) ho hp hr
theorem go_ic_le_f (K : Ok W B y rm mL ret l Z h0) {o : Int} {x z : Int32} (hd : decode B pc = .ok (.if_icmp .le o, 3)) (hc : z.toInt < x.toInt) (hp : pc + 3 = pc')
    (hr : Go W Q ds k n pc' Ls st) : Go W Q ds k n pc Ls (.int z :: .int x :: st) := go_icN K hd (XT.ii_le_f (Int32.lt_iff_toInt_lt.mpr hc)) hp hr
theorem go_ic_le (K : Ok W B y rm mL ret l Z h0) {o : Int} {x z : Int32} {pt : Nat} (hd : decode B pc = .ok (.if_icmp .le o, 3)) (ho : 0 ≤ (pc : Int) + o) (ht : ((pc : Int) + o).toNat = pt) (hp : pc + 3 = pc')
    (hy : x.toInt ≤ z.toInt → Go W Q ds k n pt Ls st) (hn : z.toInt < x.toInt → Go W Q ds k n pc' Ls st) : Go W Q ds k n pc Ls (.int z :: .int x :: st) := by
  by_cases hc : x.toInt ≤ z.toInt
  · exact go_ic_le_t K hd hc ho ht (hy hc)
  · exact go_ic_le_f K hd (by first | exact hc | exact Int.not_lt.mp hc | exact Int.not_le.mp hc | exact Decidable.not_not.mp hc) hp (hn (by first | exact hc | exact Int.not_lt.mp hc | exact Int.not_le.mp hc | exact Decidable.not_not.mp hc))
theorem go_ll_eq_t (K : Ok W B y rm mL ret l Z h0) {o : Int} {x z : Int64} {pm : Nat} (hd : decode B pc = .ok (.lcmp, 1)) (hm : pc + 1 = pm) (hd' : decode B pm = .ok (.ifCond .eq o, 3)) (hc : x = z) (ho : 0 ≤ (pm : Int) + o) (hp : ((pm : Int) + o).toNat = pc')
    (hr : Go W Q ds k n pc' Ls st) : Go W Q ds k n pc Ls (.long z :: .long x :: st) := go_lcmp K hd hm (go_ifY K hd' (XT.ll_eq_t hc) ho hp hr)
theorem go_ll_eq_f (K : Ok W B y rm mL ret l Z h0) {o : Int} {x z : Int64} {pm : Nat} (hd : decode B pc = .ok (.lcmp, 1)) (hm : pc + 1 = pm) (hd' : decode B pm = .ok (.ifCond .eq o, 3)) (hc : x ≠ z) (hp : pm + 3 = pc')
    (hr : Go W Q ds k n pc' Ls st) : Go W Q ds k n pc Ls (.long z :: .long x :: st) := go_lcmp K hd hm (go_ifN K hd' (XT.ll_eq_f hc) hp hr)
theorem go_ll_eq (K : Ok W B y rm mL ret l Z h0) {o : Int} {x z : Int64} {pm pt : Nat} (hd : decode B pc = .ok (.lcmp, 1)) (hm : pc + 1 = pm) (hd' : decode B pm = .ok (.ifCond .eq o, 3)) (ho : 0 ≤ (pm : Int) + o) (ht : ((pm : Int) + o).toNat = pt) (hp : pm + 3 = pc')
    (hy : x = z → Go W Q ds k n pt Ls st) (hn : x ≠ z → Go W Q ds k n pc' Ls st) : Go W Q ds k n pc Ls (.long z :: .long x :: st) := by
  by_cases hc : x = z
  · exact go_ll_eq_t K hd hm hd' hc ho ht (hy hc)
  · exact go_ll_eq_f K hd hm hd' (by first | exact hc | exact Int.not_lt.mp hc | exact Int.not_le.mp hc | exact Decidable.not_not.mp hc) hp (hn (by first | exact hc | exact Int.not_lt.mp hc | exact Int.not_le.mp hc | exact Decidable.not_not.mp hc))
theorem go_ll_ne_t (K : Ok W B y rm mL ret l Z h0) {o : Int} {x z : Int64} {pm : Nat} (hd : decode B pc = .ok (.lcmp, 1)) (hm : pc + 1 = pm) (hd' : decode B pm = .ok (.ifCond .ne o, 3)) (hc : x ≠ z) (ho : 0 ≤ (pm : Int) + o) (hp : ((pm : Int) + o).toNat = pc')
    (hr : Go W Q ds k n pc' Ls st) : Go W Q ds k n pc Ls (.long z :: .long x :: st) := go_lcmp K hd hm (go_ifY K hd' (XT.ll_ne_t hc) ho hp hr)
theorem go_ll_ne_f (K : Ok W B y rm mL ret l Z h0) {o : Int} {x z : Int64} {pm : Nat} (hd : decode B pc = .ok (.lcmp, 1)) (hm : pc + 1 = pm) (hd' : decode B pm = .ok (.ifCond .ne o, 3)) (hc : x = z) (hp : pm + 3 = pc')
    (hr : Go W Q ds k n pc' Ls st) : Go W Q ds k n pc Ls (.long z :: .long x :: st) := go_lcmp K hd hm (go_ifN K hd' (XT.ll_ne_f hc) hp hr)
theorem go_ll_ne (K : Ok W B y rm mL ret l Z h0) {o : Int} {x z : Int64} {pm pt : Nat} (hd : decode B pc = .ok (.lcmp, 1)) (hm : pc + 1 = pm) (hd' : decode B pm = .ok (.ifCond .ne o, 3)) (ho : 0 ≤ (pm : Int) + o) (ht : ((pm : Int) + o).toNat = pt) (hp : pm + 3 = pc')
    (hy : x ≠ z → Go W Q ds k n pt Ls st) (hn : x = z → Go W Q ds k n pc' Ls st) : Go W Q ds k n pc Ls (.long z :: .long x :: st) := by
  by_cases hc : x ≠ z
  · exact go_ll_ne_t K hd hm hd' hc ho ht (hy hc)
  · exact go_ll_ne_f K hd hm hd' (by first | exact hc | exact Int.not_lt.mp hc | exact Int.not_le.mp hc | exact Decidable.not_not.mp hc) hp (hn (by first | exact hc | exact Int.not_lt.mp hc | exact Int.not_le.mp hc | exact Decidable.not_not.mp hc))
theorem go_ll_lt_t (K : Ok W B y rm mL ret l Z h0) {o : Int} {x z : Int64} {pm : Nat} (hd : decode B pc = .ok (.lcmp, 1)) (hm : pc + 1 = pm) (hd' : decode B pm = .ok (.ifCond .lt o, 3)) (hc : x.toInt < z.toInt) (ho : 0 ≤ (pm : Int) + o) (hp : ((pm : Int) + o).toNat = pc')
    (hr : Go W Q ds k n pc' Ls st) : Go W Q ds k n pc Ls (.long z :: .long x :: st) := go_lcmp K hd hm (go_ifY K hd' (XT.ll_lt_t (Int64.lt_iff_toInt_lt.mpr hc)) ho hp hr)
theorem go_ll_lt_f (K : Ok W B y rm mL ret l Z h0) {o : Int} {x z : Int64} {pm : Nat} (hd : decode B pc = .ok (.lcmp, 1)) (hm : pc + 1 = pm) (hd' : decode B pm = .ok (.ifCond .lt o, 3)) (hc : z.toInt ≤ x.toInt) (hp : pm + 3 = pc')
    (hr : Go W Q ds k n pc' Ls st) : Go W Q ds k n pc Ls (.long z :: .long x :: st) := go_lcmp K hd hm (go_ifN K hd' (XT.ll_lt_f (fun q => absurd (Int64.lt_iff_toInt_lt.mp q) (Int.not_lt.mpr hc))) hp hr)
theorem go_ll_lt (K : Ok W B y rm mL ret l Z h0) {o : Int} {x z : Int64} {pm pt : Nat} (hd : decode B pc = .ok (.lcmp, 1)) (hm : pc + 1 = pm) (hd' : decode B pm = .ok (.ifCond .lt o, 3)) (ho : 0 ≤ (pm : Int) + o) (ht : ((pm : Int) + o).toNat = pt) (hp : pm + 3 = pc')
    (hy : x.toInt < z.toInt → Go W Q ds k n pt Ls st) (hn : z.toInt ≤ x.toInt → Go W Q ds k n pc' Ls st) : Go W Q ds k n pc Ls (.long z :: .long x :: st) := by
  by_cases hc : x.toInt < z.toInt
  · exact go_ll_lt_t K hd hm hd' hc ho ht (hy hc)
  · exact go_ll_lt_f K hd hm hd' (by first | exact hc | exact Int.not_lt.mp hc | exact Int.not_le.mp hc | exact Decidable.not_not.mp hc) hp (hn (by first | exact hc | exact Int.not_lt.mp hc | exact Int.not_le.mp hc | exact Decidable.not_not.mp hc))
theorem go_ll_ge_t (K : Ok W B y rm mL ret l Z h0) {o : Int} {x z : Int64} {pm : Nat} (hd : decode B pc = .ok (.lcmp, 1)) (hm : pc + 1 = pm) (hd' : decode B pm = .ok (.ifCond .ge o, 3)) (hc : z.toInt ≤ x.toInt) (ho : 0 ≤ (pm : Int) + o) (hp : ((pm : Int) + o).toNat = pc')
    (hr : Go W Q ds k n pc' Ls st) : Go W Q ds k n pc Ls (.long z :: .long x :: st) := go_lcmp K hd hm (go_ifY K hd' (XT.ll_ge_t (fun q => absurd (Int64.lt_iff_toInt_lt.mp q) (Int.not_lt.mpr hc))) ho hp hr)
theorem go_ll_ge_f (K : Ok W B y rm mL ret l Z h0) {o : Int} {x z : Int64} {pm : Nat} (hd : decode B pc = .ok (.lcmp, 1)) (hm : pc + 1 = pm) (hd' : decode B pm = .ok (.ifCond .ge o, 3)) (hc : x.toInt < z.toInt) (hp : pm + 3 = pc')
    (hr : Go W Q ds k n pc' Ls st) : Go W Q ds k n pc Ls (.long z :: .long x :: st) := go_lcmp K hd hm (go_ifN K hd' (XT.ll_ge_f (Int64.lt_iff_toInt_lt.mpr hc)) hp hr)
theorem go_ll_ge (K : Ok W B y rm mL ret l Z h0) {o : Int} {x z : Int64} {pm pt : Nat} (hd : decode B pc = .ok (.lcmp, 1)) (hm : pc + 1 = pm) (hd' : decode B pm = .ok (.ifCond .ge o, 3)) (ho : 0 ≤ (pm : Int) + o) (ht : ((pm : Int) + o).toNat = pt) (hp : pm + 3 = pc')
    (hy : z.toInt ≤ x.toInt → Go W Q ds k n pt Ls st) (hn : x.toInt < z.toInt → Go W Q ds k n pc' Ls st) : Go W Q ds k n pc Ls (.long z :: .long x :: st) := by
  by_cases hc : z.toInt ≤ x.toInt
  · exact go_ll_ge_t K hd hm hd' hc ho ht (hy hc)
  · exact go_ll_ge_f K hd hm hd' (by first | exact hc | exact Int.not_lt.mp hc | exact Int.not_le.mp hc | exact Decidable.not_not.mp hc) hp (hn (by first | exact hc | exact Int.not_lt.mp hc | exact Int.not_le.mp hc | exact Decidable.not_not.mp hc))
theorem go_ll_gt_t (K : Ok W B y rm mL ret l Z h0) {o : Int} {x z : Int64} {pm : Nat} (hd : decode B pc = .ok (.lcmp, 1)) (hm : pc + 1 = pm) (hd' : decode B pm = .ok (.ifCond .gt o, 3)) (hc : z.toInt < x.toInt) (ho : 0 ≤ (pm : Int) + o) (hp : ((pm : Int) + o).toNat = pc')
    (hr : Go W Q ds k n pc' Ls st) : Go W Q ds k n pc Ls (.long z :: .long x :: st) := go_lcmp K hd hm (go_ifY K hd' (XT.ll_gt_t (Int64.lt_iff_toInt_lt.mpr hc)) ho hp hr)
theorem go_ll_gt_f (K : Ok W B y rm mL ret l Z h0) {o : Int} {x z : Int64} {pm : Nat} (hd : decode B pc = .ok (.lcmp, 1)) (hm : pc + 1 = pm) (hd' : decode B pm = .ok (.ifCond .gt o, 3)) (hc : x.toInt ≤ z.toInt) (hp : pm + 3 = pc')
    (hr : Go W Q ds k n pc' Ls st) : Go W Q ds k n pc Ls (.long z :: .long x :: st) := go_lcmp K hd hm (go_ifN K hd' (XT.ll_gt_f (fun q => absurd (Int64.lt_iff_toInt_lt.mp q) (Int.not_lt.mpr hc))) hp hr)
theorem go_ll_gt (K : Ok W B y rm mL ret l Z h0) {o : Int} {x z : Int64} {pm pt : Nat} (hd : decode B pc = .ok (.lcmp, 1)) (hm : pc + 1 = pm) (hd' : decode B pm = .ok (.ifCond .gt o, 3)) (ho : 0 ≤ (pm : Int) + o) (ht : ((pm : Int) + o).toNat = pt) (hp : pm + 3 = pc')
    (hy : z.toInt < x.toInt → Go W Q ds k n pt Ls st) (hn : x.toInt ≤ z.toInt → Go W Q ds k n pc' Ls st) : Go W Q ds k n pc Ls (.long z :: .long x :: st) := by
  by_cases hc : z.toInt < x.toInt
  · exact go_ll_gt_t K hd hm hd' hc ho ht (hy hc)
  · exact go_ll_gt_f K hd hm hd' (by first | exact hc | exact Int.not_lt.mp hc | exact Int.not_le.mp hc | exact Decidable.not_not.mp hc) hp (hn (by first | exact hc | exact Int.not_lt.mp hc | exact Int.not_le.mp hc | exact Decidable.not_not.mp hc))
theorem go_ll_le_t (K : Ok W B y rm mL ret l Z h0) {o : Int} {x z : Int64} {pm : Nat} (hd : decode B pc = .ok (.lcmp, 1)) (hm : pc + 1 = pm) (hd' : decode B pm = .ok (.ifCond .le o, 3)) (hc : x.toInt ≤ z.toInt) (ho : 0 ≤ (pm : Int) + o) (hp : ((pm : Int) + o).toNat = pc')
    (hr : Go W Q ds k n pc' Ls st) : Go W Q ds k n pc Ls (.long z :: .long x :: st) := go_lcmp K hd hm (go_ifY K hd' (XT.ll_le_t (fun q => absurd (Int64.lt_iff_toInt_lt.mp q) (Int.not_lt.mpr hc))) ho hp hr)
theorem go_ll_le_f (K : Ok W B y rm mL ret l Z h0) {o : Int} {x z : Int64} {pm : Nat} (hd : decode B pc = .ok (.lcmp, 1)) (hm : pc + 1 = pm) (hd' : decode B pm = .ok (.ifCond .le o, 3)) (hc : z.toInt < x.toInt) (hp : pm + 3 = pc')
    (hr : Go W Q ds k n pc' Ls st) : Go W Q ds k n pc Ls (.long z :: .long x :: st) := go_lcmp K hd hm (go_ifN K hd' (XT.ll_le_f (Int64.lt_iff_toInt_lt.mpr hc)) hp hr)
theorem go_ll_le (K : Ok W B y rm mL ret l Z h0) {o : Int} {x z : Int64} {pm pt : Nat} (hd : decode B pc = .ok (.lcmp, 1)) (hm : pc + 1 = pm) (hd' : decode B pm = .ok (.ifCond .le o, 3)) (ho : 0 ≤ (pm : Int) + o) (ht : ((pm : Int) + o).toNat = pt) (hp : pm + 3 = pc')
    (hy : x.toInt ≤ z.toInt → Go W Q ds k n pt Ls st) (hn : z.toInt < x.toInt → Go W Q ds k n pc' Ls st) : Go W Q ds k n pc Ls (.long z :: .long x :: st) := by
  by_cases hc : x.toInt ≤ z.toInt
  · exact go_ll_le_t K hd hm hd' hc ho ht (hy hc)
  · exact go_ll_le_f K hd hm hd' (by first | exact hc | exact Int.not_lt.mp hc | exact Int.not_le.mp hc | exact Decidable.not_not.mp hc) hp (hn (by first | exact hc | exact Int.not_lt.mp hc | exact Int.not_le.mp hc | exact Decidable.not_not.mp hc))

/-! null tests, references compared -/
theorem go_ifnull_r (K : Ok W B y rm mL ret l Z h0) {o : Int} {a : Nat} (hd : decode B pc = .ok (.ifnull o, 3)) (hp : pc + 3 = pc') (hr : Go W Q ds k n pc' Ls st) : Go W Q ds k n pc Ls (.ref a :: st) := by
  subst hp
  exact go_of K (fun hx hby hown hZ X t h => XS.ifnullNo X.here hx rfl (hb hby hd) rfl h) hr
theorem go_ifnonnull_r (K : Ok W B y rm mL ret l Z h0) {o : Int} {a : Nat} (hd : decode B pc = .ok (.ifnonnull o, 3)) (ho : 0 ≤ (pc : Int) + o) (hp : ((pc : Int) + o).toNat = pc') (hr : Go W Q ds k n pc' Ls st) : Go W Q ds k n pc Ls (.ref a :: st) :=
  go_of K (fun hx hby hown hZ X t h => XT.ifnonnullYes X.here hx rfl rfl (hb hby hd) rfl ho hp h) hr
theorem go_acY (K : Ok W B y rm mL ret l Z h0) {o : Int} {cd : ClassFile.ACond} {a b : Value} (hd : decode B pc = .ok (.if_acmp cd o, 3)) (h1 : a.isRef = true) (h2 : b.isRef = true) (hc : XT.acmp cd a b = true) (ho : 0 ≤ (pc : Int) + o) (hp : ((pc : Int) + o).toNat = pc')
    (hr : Go W Q ds k n pc' Ls st) : Go W Q ds k n pc Ls (b :: a :: st) :=
  go_of K (fun hx hby hown hZ X t h => XT.acmpYes X.here hx rfl rfl (hb hby hd) rfl h1 h2 hc ho hp h) hr
theorem go_acN (K : Ok W B y rm mL ret l Z h0) {o : Int} {cd : ClassFile.ACond} {a b : Value} (hd : decode B pc = .ok (.if_acmp cd o, 3)) (h1 : a.isRef = true) (h2 : b.isRef = true) (hc : XT.acmp cd a b = false) (hp : pc + 3 = pc')
    (hr : Go W Q ds k n pc' Ls st) : Go W Q ds k n pc Ls (b :: a :: st) := by
  subst hp
  exact go_of K (fun hx hby hown hZ X t h => XT.acmpNo X.here hx rfl (hb hby hd) rfl h1 h2 hc h) hr
/-! returns -/
theorem go_done (K : Ok W B y rm mL ret l Z h0) {v : Option Value} (hv : ret = none → v = none) (hk : k ≤ rm.cells) (hn : n ≤ rm.slots)
    (f : ∀ {p : Program} {l : Launch} {e : Env} {R : Room} {s : State} {m : MethodId} {args : Array Value} {below : List Frame} {meth : Method} {c : Code} {T : State} {L : List Loc} {fs : List Frame}, p.tables.exec = Jvm.exec → c.code = B → meth.sig.returnType = ret →
      Stand p l e R s m args below meth c T L k n → (∀ (f : JFrame) (acts : List Action), f.method = m → f.locked = none → f.entered = [] → (doReturn e (T.setTop f) acts v).1 = T.setFrames fs) → Steps p.tables e below (T.setTop (mkF m pc Ls st)) (T.setFrames fs))
    (hq : Q v ds) : Go W Q ds k n pc Ls st := by
  obtain ⟨p, l, e, R, s, m, args, below, meth, c, Z, h0⟩ := W
  obtain ⟨k1, k2, k3, k4, k5, k6, k7, k8, rfl, rfl, rfl, rfl⟩ := K
  intro T L N X H
  obtain ⟨fs, hr, hrun, hended, hW, hsame⟩ := X.leave (v := v) (fun h => hv (k6.symm.trans h)) k7
  exact ⟨_, v, f k1 k3 k6 X hr, hrun, hended, L, ds, N, H, hq, ⟨_, rfl⟩, hW, hsame.mono hk hn⟩
theorem go_ret (K : Ok W B y rm mL none l Z h0) (hd : decode B pc = .ok (.return_, 1)) (hk : k ≤ rm.cells) (hn : n ≤ rm.slots) (hq : Q none ds) : Go W Q ds k n pc Ls [] :=
  go_done K (v := none) (fun _ => rfl) hk hn (fun hx hby hret X hr => X.returnOut hx hret (hb hby hd) hr) hq
theorem go_iret (K : Ok W B y rm mL (some .int) l Z h0) {z : Int32} (hd : decode B pc = .ok (.ireturn, 1)) (hk : k ≤ rm.cells) (hn : n ≤ rm.slots) (hq : Q (some (.int z)) ds) : Go W Q ds k n pc Ls (.int z :: st) :=
  go_done K (v := some (.int z)) (fun h => by cases h) hk hn (fun hx hby hret X hr => retOut X hx hret rfl (Or.inl ⟨rfl, Or.inl rfl, _, rfl⟩) (hb hby hd) hr) hq
theorem go_zret (K : Ok W B y rm mL (some .boolean) l Z h0) {z : Int32} (hd : decode B pc = .ok (.ireturn, 1)) (hk : k ≤ rm.cells) (hn : n ≤ rm.slots) (hz : z = 0 ∨ z = 1) (hq : Q (some (.int z)) ds) : Go W Q ds k n pc Ls (.int z :: st) :=
  go_done K (v := some (.int z)) (fun h => by cases h) hk hn (fun hx hby hret X hr => retOut X hx hret (by rcases hz with rfl | rfl <;> rfl) (Or.inl ⟨rfl, Or.inr (Or.inl rfl), _, rfl⟩) (hb hby hd) hr) hq
theorem go_lret (K : Ok W B y rm mL (some .long) l Z h0) {z : Int64} (hd : decode B pc = .ok (.lreturn, 1)) (hk : k ≤ rm.cells) (hn : n ≤ rm.slots) (hq : Q (some (.long z)) ds) : Go W Q ds k n pc Ls (.long z :: st) :=
  go_done K (v := some (.long z)) (fun h => by cases h) hk hn (fun hx hby hret X hr => retOut X hx hret rfl (Or.inr (Or.inl ⟨rfl, rfl, _, rfl⟩)) (hb hby hd) hr) hq
theorem go_aret {t : FieldType} (K : Ok W B y rm mL (some t) l Z h0) {a : Nat} (ht : t.isReference = true) (hd : decode B pc = .ok (.areturn, 1)) (hk : k ≤ rm.cells) (hn : n ≤ rm.slots) (hq : Q (some (.ref a)) ds) : Go W Q ds k n pc Ls (.ref a :: st) :=
  go_done K (v := some (.ref a)) (fun h => by cases h) hk hn (fun hx hby hret X hr => retOut X hx hret (by cases t <;> first | rfl | cases ht) (Or.inr (Or.inr (Or.inr (Or.inr ⟨rfl, ht, rfl⟩)))) (hb hby hd) hr) hq
/-! arrays -/
theorem inb {vs : List Value} {c : Cell} {j : Int32} {m : Nat} (S : c.slots = vs.toArray) (hj : j.toInt = (m : Int)) (hm : m < vs.length) : ¬ (j < 0 ∨ c.slots.size ≤ j.toNatClampNeg) := by
  have e : j.toNatClampNeg = m := by simp [Int32.toNatClampNeg, hj]
  rw [e, S, List.size_toArray, Int32.lt_iff_toInt_lt, hj]
  have z : (0 : Int32).toInt = 0 := rfl
  rw [z]; omega
theorem go_alen (K : Ok W B y rm mL ret l Z h0) {i a : Nat} {ty : FieldType} {vs : List Value} {z : Int32} (ha : ds[i]? = some (a, .inl (ty, vs))) (hd : decode B pc = .ok (.arraylength, 1)) (hz : vs.length.toInt32 = z) (hp : pc + 1 = pc')
    (hr : Go W Q ds k n pc' Ls (.int z :: st)) : Go W Q ds k n pc Ls (.ref a :: st) := by
  obtain ⟨p, l, e, R, s, m, args, below, meth, c, Z, h0⟩ := W
  obtain ⟨k1, k2, k3, k4, k5, k6, k7, k8, rfl, rfl, rfl, rfl⟩ := K
  intro T L N X H
  obtain ⟨s₂, v, h1, rest⟩ := hr T L N X H
  obtain ⟨-, cl, A, S, -⟩ := H.2.1 _ _ ha
  subst hp hz
  refine ⟨s₂, v, X.arraylength k1 A.1 (State.isArrayOf_alike k2.alike A.2.1) (g := mkF m pc Ls (.ref a :: st)) rfl rfl (hb k3 hd) _ ?_, rest⟩
  have q : cl.slots.size = vs.length := by rw [S, List.size_toArray]
  rw [q]; exact h1

theorem go_iaload (K : Ok W B y rm mL ret l Z h0) {i a m : Nat} {xs : List Int32} {j : Int32} {x : Int32} (ha : ds[i]? = some (a, ia xs)) (hd : decode B pc = .ok (.iaload, 1)) (hj : j.toInt = (m : Int)) (hx : xs[m]? = some x) (hp : pc + 1 = pc')
    (hr : Go W Q ds k n pc' Ls (.int x :: st)) : Go W Q ds k n pc Ls (.int j :: .ref a :: st) := by
  obtain ⟨p, l, e, R, s, mm, args, below, meth, c, Z, h0⟩ := W
  obtain ⟨k1, k2, k3, k4, k5, k6, k7, k8, rfl, rfl, rfl, rfl⟩ := K
  intro T L N X H
  obtain ⟨s₂, v, h1, rest⟩ := hr T L N X H
  obtain ⟨-, cl, A, S, -⟩ := H.2.1 _ _ ha
  subst hp
  have hm : m < xs.length := (List.getElem?_eq_some_iff.mp hx).1
  have e1 : j.toNatClampNeg = m := by simp [Int32.toNatClampNeg, hj]
  refine ⟨s₂, v, X.iaload k1 A.1 (State.isArrayOf_alike k2.alike A.2.1) A.2.2 (inb S hj (by simpa using hm)) (v := .int x) ?_ (g := mkF mm pc Ls (.int j :: .ref a :: st)) rfl rfl (hb k3 hd) _ h1, rest⟩
  rw [e1, S]; simp [hx]
theorem go_laload (K : Ok W B y rm mL ret l Z h0) {i a m : Nat} {xs : List Int64} {j : Int32} {x : Int64} (ha : ds[i]? = some (a, la xs)) (hd : decode B pc = .ok (.laload, 1)) (hj : j.toInt = (m : Int)) (hx : xs[m]? = some x) (hp : pc + 1 = pc')
    (hr : Go W Q ds k n pc' Ls (.long x :: st)) : Go W Q ds k n pc Ls (.int j :: .ref a :: st) := by
  obtain ⟨p, l, e, R, s, mm, args, below, meth, c, Z, h0⟩ := W
  obtain ⟨k1, k2, k3, k4, k5, k6, k7, k8, rfl, rfl, rfl, rfl⟩ := K
  intro T L N X H
  obtain ⟨s₂, v, h1, rest⟩ := hr T L N X H
  obtain ⟨-, cl, A, S, -⟩ := H.2.1 _ _ ha
  subst hp
  have hm : m < xs.length := (List.getElem?_eq_some_iff.mp hx).1
  have e1 : j.toNatClampNeg = m := by simp [Int32.toNatClampNeg, hj]
  refine ⟨s₂, v, X.laload k1 A.1 (State.isArrayOf_alike k2.alike A.2.1) A.2.2 (inb S hj (by simpa using hm)) (v := .long x) ?_ (g := mkF mm pc Ls (.int j :: .ref a :: st)) rfl rfl (hb k3 hd) _ h1, rest⟩
  rw [e1, S]; simp [hx]
theorem go_baload (K : Ok W B y rm mL ret l Z h0) {i a m : Nat} {xs : List Int32} {j : Int32} {x : Int32} (ha : ds[i]? = some (a, ba xs)) (hd : decode B pc = .ok (.baload, 1)) (hj : j.toInt = (m : Int)) (hx : xs[m]? = some x) (hp : pc + 1 = pc')
    (hr : Go W Q ds k n pc' Ls (.int x :: st)) : Go W Q ds k n pc Ls (.int j :: .ref a :: st) := by
  obtain ⟨p, l, e, R, s, mm, args, below, meth, c, Z, h0⟩ := W
  obtain ⟨k1, k2, k3, k4, k5, k6, k7, k8, rfl, rfl, rfl, rfl⟩ := K
  intro T L N X H
  obtain ⟨s₂, v, h1, rest⟩ := hr T L N X H
  obtain ⟨-, cl, A, S, -⟩ := H.2.1 _ _ ha
  subst hp
  have hm : m < xs.length := (List.getElem?_eq_some_iff.mp hx).1
  have e1 : j.toNatClampNeg = m := by simp [Int32.toNatClampNeg, hj]
  refine ⟨s₂, v, X.baloadBytes k1 A.1 (State.isArrayOf_alike k2.alike A.2.1) A.2.2 (inb S hj (by simpa using hm)) (v := .int x) ?_ (g := mkF mm pc Ls (.int j :: .ref a :: st)) rfl rfl (hb k3 hd) _ h1, rest⟩
  rw [e1, S]; simp [hx]
theorem go_iastore (K : Ok W B y rm mL ret l Z h0) {i a m : Nat} {xs : List Int32} {j : Int32} {x : Int32} {ds' : Hp} (ha : ds[i]? = some (a, ia xs)) (hd : decode B pc = .ok (.iastore, 1)) (hj : j.toInt = (m : Int)) (hm : m < xs.length) (hp : pc + 1 = pc') (hs : ds.set i (a, ia (xs.set m x)) = ds')
    (hr : Go W Q ds' k n pc' Ls st) : Go W Q ds k n pc Ls (.int x :: .int j :: .ref a :: st) := by
  subst hs hp
  obtain ⟨p, l, e, R, s, mm, args, below, meth, c, Z, h0⟩ := W
  obtain ⟨k1, k2, k3, k4, k5, k6, k7, k8, rfl, rfl, rfl, rfl⟩ := K
  intro T L N X H
  obtain ⟨hge, cl, A, S, EX⟩ := H.2.1 _ _ ha
  have e1 : j.toNatClampNeg = m := by simp [Int32.toNatClampNeg, hj]
  obtain ⟨T', h', X', eT, Wr1, stp⟩ := stI X k1 k2 rfl A (inb S hj (by simpa using hm)) (g := mkF mm pc Ls (.int x :: .int j :: .ref a :: st)) rfl rfl (hb k3 hd)
  rw [e1] at Wr1 X'
  obtain ⟨s₂, v, h1, rest⟩ := hr T' _ (N.snoc X' hge) X' (by
    rw [eT]
    refine H.set ha Wr1 ⟨_, A.same Wr1, ?_, EX.wr Wr1⟩
    simp [Cell.setSlot, S, List.map_set])
  exact ⟨s₂, v, stp _ h1, rest⟩
theorem go_lastore (K : Ok W B y rm mL ret l Z h0) {i a m : Nat} {xs : List Int64} {j : Int32} {x : Int64} {ds' : Hp} (ha : ds[i]? = some (a, la xs)) (hd : decode B pc = .ok (.lastore, 1)) (hj : j.toInt = (m : Int)) (hm : m < xs.length) (hp : pc + 1 = pc') (hs : ds.set i (a, la (xs.set m x)) = ds')
    (hr : Go W Q ds' k n pc' Ls st) : Go W Q ds k n pc Ls (.long x :: .int j :: .ref a :: st) := by
  subst hs hp
  obtain ⟨p, l, e, R, s, mm, args, below, meth, c, Z, h0⟩ := W
  obtain ⟨k1, k2, k3, k4, k5, k6, k7, k8, rfl, rfl, rfl, rfl⟩ := K
  intro T L N X H
  obtain ⟨hge, cl, A, S, EX⟩ := H.2.1 _ _ ha
  have e1 : j.toNatClampNeg = m := by simp [Int32.toNatClampNeg, hj]
  obtain ⟨T', h', X', eT, Wr1, stp⟩ := stJ X k1 k2 rfl A (inb S hj (by simpa using hm)) (g := mkF mm pc Ls (.long x :: .int j :: .ref a :: st)) rfl rfl (hb k3 hd)
  rw [e1] at Wr1 X'
  obtain ⟨s₂, v, h1, rest⟩ := hr T' _ (N.snoc X' hge) X' (by
    rw [eT]
    refine H.set ha Wr1 ⟨_, A.same Wr1, ?_, EX.wr Wr1⟩
    simp [Cell.setSlot, S, List.map_set])
  exact ⟨s₂, v, stp _ h1, rest⟩
theorem go_bastore (K : Ok W B y rm mL ret l Z h0) {i a m : Nat} {xs : List Int32} {j : Int32} {x : Int32} {ds' : Hp} (ha : ds[i]? = some (a, ba xs)) (hd : decode B pc = .ok (.bastore, 1)) (hj : j.toInt = (m : Int)) (hm : m < xs.length) (hp : pc + 1 = pc') (hs : ds.set i (a, ba (xs.set m (nar .byte x))) = ds')
    (hr : Go W Q ds' k n pc' Ls st) : Go W Q ds k n pc Ls (.int x :: .int j :: .ref a :: st) := by
  subst hs hp
  obtain ⟨p, l, e, R, s, mm, args, below, meth, c, Z, h0⟩ := W
  obtain ⟨k1, k2, k3, k4, k5, k6, k7, k8, rfl, rfl, rfl, rfl⟩ := K
  intro T L N X H
  obtain ⟨hge, cl, A, S, EX⟩ := H.2.1 _ _ ha
  have e1 : j.toNatClampNeg = m := by simp [Int32.toNatClampNeg, hj]
  obtain ⟨T', h', X', eT, Wr1, stp⟩ := stB X k1 k2 rfl A (inb S hj (by simpa using hm)) (g := mkF mm pc Ls (.int x :: .int j :: .ref a :: st)) rfl rfl (hb k3 hd)
  rw [e1] at Wr1 X'
  obtain ⟨s₂, v, h1, rest⟩ := hr T' _ (N.snoc X' hge) X' (by
    rw [eT]
    refine H.set ha Wr1 ⟨_, A.same Wr1, ?_, EX.wr Wr1⟩
    simp [Cell.setSlot, S, List.map_set])
  exact ⟨s₂, v, stp _ h1, rest⟩
theorem go_newI (K : Ok W B y rm mL ret l Z h0) {m cap : Nat} {z : Int32} (w : (Jvm.Cond.arrayClass .int).before a0 Z = true) (hd : decode B pc = .ok (.newarray .int, 2)) (hz : z.toInt = (m : Int)) (hcap : m ≤ cap) (hb8 : cap * 8 ≤ 536870912) (hk : k + 1 ≤ rm.cells) (hn : n + cap ≤ rm.slots) (hp : pc + 2 = pc')
    (hr : ∀ a, h0.size ≤ a → (∀ q ∈ ds, q.1 < a) → Go W Q (ds ++ [(a, ia (List.replicate m 0))]) (k + 1) (n + cap) pc' Ls (.ref a :: st)) : Go W Q ds k n pc Ls (.int z :: st) := by
  subst hp
  obtain ⟨p, l, e, R, s, mm, args, below, meth, c, Z, h0⟩ := W
  obtain ⟨k1, k2, k3, k4, k5, k6, k7, k8, rfl, rfl, rfl, rfl⟩ := K
  intro T L N X H
  have e1 : z.toNatClampNeg = m := by simp [Int32.toNatClampNeg, hz]
  obtain ⟨T', h', cA, X', eT, E, A, EX, stp⟩ := newPE X k1 k2 (aty := .int) w rfl (g := mkF mm pc Ls (.int z :: st)) rfl (hb k3 hd) rfl (by rw [Int32.lt_iff_toInt_lt, hz]; exact Int.not_lt.mpr (Int.natCast_nonneg m)) (cap := cap) (by rw [e1]; exact hcap) hb8 hk hn rfl
  obtain ⟨s₂, v, h1, rest⟩ := hr T.heap.size H.1.1 H.lts T' _ N X' (by
    rw [eT]
    refine H.new E ⟨_, A, ?_, EX⟩
    simp only [newA, e1, List.map_replicate]
    first | rfl | simp [defaultValue, newarray.typeOf])
  exact ⟨s₂, v, stp _ h1, rest⟩
theorem go_newJ (K : Ok W B y rm mL ret l Z h0) {m cap : Nat} {z : Int32} (w : (Jvm.Cond.arrayClass .long).before a0 Z = true) (hd : decode B pc = .ok (.newarray .long, 2)) (hz : z.toInt = (m : Int)) (hcap : m ≤ cap) (hb8 : cap * 8 ≤ 536870912) (hk : k + 1 ≤ rm.cells) (hn : n + cap ≤ rm.slots) (hp : pc + 2 = pc')
    (hr : ∀ a, h0.size ≤ a → (∀ q ∈ ds, q.1 < a) → Go W Q (ds ++ [(a, la (List.replicate m 0))]) (k + 1) (n + cap) pc' Ls (.ref a :: st)) : Go W Q ds k n pc Ls (.int z :: st) := by
  subst hp
  obtain ⟨p, l, e, R, s, mm, args, below, meth, c, Z, h0⟩ := W
  obtain ⟨k1, k2, k3, k4, k5, k6, k7, k8, rfl, rfl, rfl, rfl⟩ := K
  intro T L N X H
  have e1 : z.toNatClampNeg = m := by simp [Int32.toNatClampNeg, hz]
  obtain ⟨T', h', cA, X', eT, E, A, EX, stp⟩ := newPE X k1 k2 (aty := .long) w rfl (g := mkF mm pc Ls (.int z :: st)) rfl (hb k3 hd) rfl (by rw [Int32.lt_iff_toInt_lt, hz]; exact Int.not_lt.mpr (Int.natCast_nonneg m)) (cap := cap) (by rw [e1]; exact hcap) hb8 hk hn rfl
  obtain ⟨s₂, v, h1, rest⟩ := hr T.heap.size H.1.1 H.lts T' _ N X' (by
    rw [eT]
    refine H.new E ⟨_, A, ?_, EX⟩
    simp only [newA, e1, List.map_replicate]
    first | rfl | simp [defaultValue, newarray.typeOf])
  exact ⟨s₂, v, stp _ h1, rest⟩
theorem go_newB (K : Ok W B y rm mL ret l Z h0) {m cap : Nat} {z : Int32} (w : (Jvm.Cond.arrayClass .byte).before a0 Z = true) (hd : decode B pc = .ok (.newarray .byte, 2)) (hz : z.toInt = (m : Int)) (hcap : m ≤ cap) (hb8 : cap * 8 ≤ 536870912) (hk : k + 1 ≤ rm.cells) (hn : n + cap ≤ rm.slots) (hp : pc + 2 = pc')
    (hr : ∀ a, h0.size ≤ a → (∀ q ∈ ds, q.1 < a) → Go W Q (ds ++ [(a, ba (List.replicate m 0))]) (k + 1) (n + cap) pc' Ls (.ref a :: st)) : Go W Q ds k n pc Ls (.int z :: st) := by
  subst hp
  obtain ⟨p, l, e, R, s, mm, args, below, meth, c, Z, h0⟩ := W
  obtain ⟨k1, k2, k3, k4, k5, k6, k7, k8, rfl, rfl, rfl, rfl⟩ := K
  intro T L N X H
  have e1 : z.toNatClampNeg = m := by simp [Int32.toNatClampNeg, hz]
  obtain ⟨T', h', cA, X', eT, E, A, EX, stp⟩ := newPE X k1 k2 (aty := .byte) w rfl (g := mkF mm pc Ls (.int z :: st)) rfl (hb k3 hd) rfl (by rw [Int32.lt_iff_toInt_lt, hz]; exact Int.not_lt.mpr (Int.natCast_nonneg m)) (cap := cap) (by rw [e1]; exact hcap) hb8 hk hn rfl
  obtain ⟨s₂, v, h1, rest⟩ := hr T.heap.size H.1.1 H.lts T' _ N X' (by
    rw [eT]
    refine H.new E ⟨_, A, ?_, EX⟩
    simp only [newA, e1, List.map_replicate]
    first | rfl | simp [defaultValue, newarray.typeOf])
  exact ⟨s₂, v, stp _ h1, rest⟩

/-! calls -/
theorem go_static (K : Ok W B y rm mL ret l Z h0) {y' : MethodName} {B' : ByteArray} {mL' idx Wd : Nat} {ret' : Option FieldType} {rm' : Room} {Q' : Option Value → Hp → Prop} {argsL rest : List Value}
    (w1 : (Jvm.Cond.methodLink y.cls idx y').before a0 Z = true) (w2 : (Jvm.Cond.static y').before a0 Z = true) (w3 : (Jvm.Cond.initialized y'.cls).before a0 Z = true) (w4 : (Jvm.Cond.code y' B' mL' ret').before a0 Z = true)
    (hd : decode B pc = .ok (.invokestatic idx, 3)) (hct : Ct l Z h0 y' B' mL' ret' [] rm' argsL.toArray ds Q') (hlen : ∀ sig, parseMethodDescriptor y'.desc = some sig → argsL.length = sig.parameters.length) (hsz : Ls.size = mL) (hst : st = argsL.reverse ++ rest)
    (hy : y'.cls ≠ "java/lang/invoke/MethodHandle" ∧ y'.cls ≠ "java/lang/invoke/VarHandle") (hW : (rest.map fun v => v.category).sum = Wd) (hf : rm'.frames + 1 ≤ rm.frames) (hl : Wd + (mL' + 11) + rm'.locals ≤ rm.locals) (hk : k + rm'.cells ≤ rm.cells) (hn : n + rm'.slots ≤ rm.slots) (hp : pc + 3 = pc')
    (hr : ∀ v ds', Q' v ds' → Go W Q ds' (k + rm'.cells) (n + rm'.slots) pc' Ls (v.toList ++ rest)) : Go W Q ds k n pc Ls st := by
  subst hp hst
  obtain ⟨p, l, e, R, s, m, args, below, meth, c, Z, h0⟩ := W
  obtain ⟨k1, k2, k3, k4, k5, k6, k7, k8, rfl, rfl, rfl, rfl⟩ := K
  intro T L N X H
  obtain ⟨v, vm₁, ⟨T', L', kk, nn⟩, -, X', ⟨Lc, hQ, l1, y1, z1⟩, stp⟩ := Jvm.LawKit.callS X k1 (y := y') k5 (mvT k2 w1) (mvT k2 w2) (mvT k2 w3) (mvT k2 w4) hy
    (backOf (W := Wd) (Q := fun v h L => Fr h0.size L ∧ ∃ ds', HL Z h0 ds' h ∧ Q' v ds') (hct _ H) k2 w4 w3 hf hl) (g := mkF m pc Ls (argsL.reverse ++ rest)) rfl (hsz.trans k4.symm) (argsL := argsL) (rest := rest) hlen rfl (by show 2 * 0 + _ ≤ _; omega) (hb k3 hd) (fun _ _ => ⟨rfl, rfl, hk, hn⟩)
  dsimp only [Pt.U, Pt.locs, Pt.cells, Pt.slots] at X' l1 y1 z1 stp hQ
  subst l1 y1 z1
  obtain ⟨N', ds', H', hq⟩ := hQ
  obtain ⟨s₂, v₂, h1, rest'⟩ := hr v ds' hq T' _ (N.app N') X' H'
  exact ⟨s₂, v₂, stp _ h1, rest'⟩
theorem go_virtual (K : Ok W B y rm mL ret l Z h0) {y' : MethodName} {B' : ByteArray} {mL' idx Wd i b : Nat} {ret' : Option FieldType} {rm' : Room} {Q' : Option Value → Hp → Prop} {argsL rest : List Value} {C : String} {fs : List ((String × String × String) × Value)}
    (w1 : (Jvm.Cond.methodLink y.cls idx y').before a0 Z = true) (w2 : (Jvm.Cond.declares y').before a0 Z = true) (w3 : (Jvm.Cond.selects C y' y').before a0 Z = true) (w4 : (Jvm.Cond.instanceMethod y').before a0 Z = true) (w5 : (Jvm.Cond.initialized y'.cls).before a0 Z = true) (w6 : (Jvm.Cond.code y' B' mL' ret').before a0 Z = true)
    (ha : ds[i]? = some (b, .inr (C, fs))) (hd : decode B pc = .ok (.invokevirtual idx, 3)) (hct : Ct l Z h0 y' B' mL' ret' [] rm' (.ref b :: argsL).toArray ds Q') (hlen : ∀ sig, parseMethodDescriptor y'.desc = some sig → argsL.length = sig.parameters.length) (hsz : Ls.size = mL) (hst : st = argsL.reverse ++ .ref b :: rest)
    (hy : y'.cls ≠ "java/lang/invoke/MethodHandle" ∧ y'.cls ≠ "java/lang/invoke/VarHandle") (hW : (rest.map fun v => v.category).sum = Wd) (hf : rm'.frames + 1 ≤ rm.frames) (hl : Wd + (mL' + 11) + rm'.locals ≤ rm.locals) (hk : k + rm'.cells ≤ rm.cells) (hn : n + rm'.slots ≤ rm.slots) (hp : pc + 3 = pc')
    (hr : ∀ v ds', Q' v ds' → Go W Q ds' (k + rm'.cells) (n + rm'.slots) pc' Ls (v.toList ++ rest)) : Go W Q ds k n pc Ls st := by
  subst hp hst
  obtain ⟨p, l, e, R, s, m, args, below, meth, c, Z, h0⟩ := W
  obtain ⟨k1, k2, k3, k4, k5, k6, k7, k8, rfl, rfl, rfl, rfl⟩ := K
  intro T L N X H
  obtain ⟨-, E, -⟩ := H.2.1 _ _ ha
  obtain ⟨cB, kB, q1, -, q3⟩ := isOf (T := T) k2 rfl E
  obtain ⟨v, vm₁, ⟨T', L', kk, nn⟩, -, X', ⟨Lc, hQ, l1, y1, z1⟩, stp⟩ := X.virtualBack k1 (y := y') (z := y') k5 (mvT k2 w1) (mvT k2 w2) (notFace_of_selects (args := #[]) (mvT k2 w3)) (mvT k2 w3) (mvT k2 w4) hy
    (backOf (W := Wd) (Q := fun v h L => Fr h0.size L ∧ ∃ ds', HL Z h0 ds' h ∧ Q' v ds') (hct _ H) k2 w6 w5 hf hl) q1 q3 (g := mkF m pc Ls (argsL.reverse ++ .ref b :: rest)) rfl (hsz.trans k4.symm) (Steps.refl _) (argsL := argsL) (rest := rest) hlen rfl (by show 2 * 0 + _ ≤ _; omega) (hb k3 hd) (fun _ _ => ⟨rfl, rfl, hk, hn⟩)
  dsimp only [Pt.U, Pt.locs, Pt.cells, Pt.slots] at X' l1 y1 z1 stp hQ
  subst l1 y1 z1
  obtain ⟨N', ds', H', hq⟩ := hQ
  obtain ⟨s₂, v₂, h1, rest'⟩ := hr v ds' hq T' _ (N.app N') X' H'
  exact ⟨s₂, v₂, stp.trans h1, rest'⟩
theorem go_special (K : Ok W B y rm mL ret l Z h0) {y' : MethodName} {B' : ByteArray} {mL' idx Wd b : Nat} {rm' : Room} {Q' : Option Value → Hp → Prop} {argsL rest : List Value} (hin : y'.name = "<init>")
    (w1 : (Jvm.Cond.methodLink y.cls idx y').before a0 Z = true) (w2 : (Jvm.Cond.instanceMethod y').before a0 Z = true) (w3 : (Jvm.Cond.initialized y'.cls).before a0 Z = true) (w4 : (Jvm.Cond.code y' B' mL' none).before a0 Z = true)
    (hd : decode B pc = .ok (.invokespecial idx, 3)) (hct : Ct l Z h0 y' B' mL' none [] rm' (.ref b :: argsL).toArray ds Q') (hlen : ∀ sig, parseMethodDescriptor y'.desc = some sig → argsL.length = sig.parameters.length) (hsz : Ls.size = mL) (hst : st = argsL.reverse ++ .ref b :: rest)
    (hy : y'.cls ≠ "java/lang/invoke/MethodHandle" ∧ y'.cls ≠ "java/lang/invoke/VarHandle") (hW : (rest.map fun v => v.category).sum = Wd) (hf : rm'.frames + 1 ≤ rm.frames) (hl : Wd + (mL' + 11) + rm'.locals ≤ rm.locals) (hk : k + rm'.cells ≤ rm.cells) (hn : n + rm'.slots ≤ rm.slots) (hp : pc + 3 = pc')
    (hr : ∀ v ds', Q' v ds' → Go W Q ds' (k + rm'.cells) (n + rm'.slots) pc' Ls (v.toList ++ rest)) : Go W Q ds k n pc Ls st := by
  subst hp hst
  obtain ⟨p, l, e, R, s, m, args, below, meth, c, Z, h0⟩ := W
  obtain ⟨k1, k2, k3, k4, k5, k6, k7, k8, rfl, rfl, rfl, rfl⟩ := K
  intro T L N X H
  obtain ⟨v, vm₁, ⟨T', L', kk, nn⟩, -, X', ⟨Lc, hQ, l1, y1, z1⟩, stp⟩ := X.specialBack k1 (y := y') hin k5 (mvT k2 w1) (mvT k2 w2) (mvT k2 w4) hy
    (backOf (W := Wd) (Q := fun v h L => Fr h0.size L ∧ ∃ ds', HL Z h0 ds' h ∧ Q' v ds') (hct _ H) k2 w4 w3 hf hl) (g := mkF m pc Ls (argsL.reverse ++ .ref b :: rest)) rfl (hsz.trans k4.symm) (Steps.refl _) (a := b) (argsL := argsL) (rest := rest) hlen rfl (by show 2 * 0 + _ ≤ _; omega) (hb k3 hd) (fun _ _ => ⟨rfl, rfl, hk, hn⟩)
  dsimp only [Pt.U, Pt.locs, Pt.cells, Pt.slots] at X' l1 y1 z1 stp hQ
  subst l1 y1 z1
  obtain ⟨N', ds', H', hq⟩ := hQ
  obtain ⟨s₂, v₂, h1, rest'⟩ := hr v ds' hq T' _ (N.app N') X' H'
  exact ⟨s₂, v₂, stp.trans h1, rest'⟩
/-! objects -/
theorem go_objinit (K : Ok W B y rm mL ret l Z h0) {idx Wd b : Nat} (w1 : (Jvm.Cond.methodLink y.cls idx Lib.objectInit).before a0 Z = true) (w2 : (Jvm.Cond.instanceMethod Lib.objectInit).before a0 Z = true) (w3 : (Jvm.Cond.code Lib.objectInit ⟨#[0xb1]⟩ 1 none).before a0 Z = true)
    (hd : decode B pc = .ok (.invokespecial idx, 3)) (hsz : Ls.size = mL) (hW : (st.map fun v => v.category).sum = Wd) (hf : 1 ≤ rm.frames) (hl : Wd + 12 ≤ rm.locals) (hp : pc + 3 = pc') (hr : Go W Q ds k n pc' Ls st) : Go W Q ds k n pc Ls (.ref b :: st) := by
  subst hp
  obtain ⟨p, l, e, R, s, m, args, below, meth, c, Z, h0⟩ := W
  obtain ⟨k1, k2, k3, k4, k5, k6, k7, k8, rfl, rfl, rfl, rfl⟩ := K
  intro T L N X H
  obtain ⟨T', X', eT, stp⟩ := initO X k1 k2 k5 w1 w2 w3 rfl (g := mkF m pc Ls (.ref b :: st)) rfl (hsz.trans k4.symm) rfl (hb k3 hd) hf (W := Wd) (by show 2 * 0 + _ ≤ _; omega) hl
  obtain ⟨s₂, v₂, h1, rest'⟩ := hr T' L N X' (by rw [eT]; exact H)
  exact ⟨s₂, v₂, stp _ h1, rest'⟩
theorem go_getfield (K : Ok W B y rm mL ret l Z h0) {idx i j a : Nat} {C O nm d : String} {fs : List ((String × String × String) × Value)} {x : Value} (w : (Jvm.Cond.fieldLink y.cls idx O nm d).before a0 Z = true)
    (ha : ds[i]? = some (a, .inr (C, fs))) (hf : fs[j]? = some ((O, nm, d), x)) (hd : decode B pc = .ok (.getfield idx, 3)) (hp : pc + 3 = pc') (hr : Go W Q ds k n pc' Ls (x :: st)) : Go W Q ds k n pc Ls (.ref a :: st) := by
  subst hp
  obtain ⟨p, l, e, R, s, m, args, below, meth, c, Z, h0⟩ := W
  obtain ⟨k1, k2, k3, k4, k5, k6, k7, k8, rfl, rfl, rfl, rfl⟩ := K
  intro T L N X H
  obtain ⟨-, E, F⟩ := H.2.1 _ _ ha
  obtain ⟨T', X', eT, stp⟩ := getF X k1 k2 k5 (host := "") (Or.inl w) Via.refl rfl (F j _ hf) (g := mkF m pc Ls (.ref a :: st)) rfl rfl (hb k3 hd)
  obtain ⟨s₂, v₂, h1, rest'⟩ := hr T' L N X' (by rw [eT]; exact H)
  exact ⟨s₂, v₂, stp _ h1, rest'⟩
theorem go_putfield (K : Ok W B y rm mL ret l Z h0) {idx i j a kk : Nat} {C O nm d : String} {fs : List ((String × String × String) × Value)} {KS : List (String × String × String)} {x old : Value} {ty : FieldType} {ds' : Hp} (w : (Jvm.Cond.fieldLink y.cls idx O nm d).before a0 Z = true)
    (wl : (Jvm.Cond.lays C O nm d).before a0 Z = true ∨ ((Jvm.Cond.laysFinal C O nm d).before a0 Z = true ∧ y.cls = O ∧ y.name = "<init>")) (wi : (Jvm.Cond.instantiable C kk).before a0 Z = true)
    (ha : ds[i]? = some (a, .inr (C, fs))) (hf : fs[j]? = some ((O, nm, d), old)) (hks : fs.map Prod.fst = KS) (al : ∀ f ∈ KS, Laid Z a0 C f.1 f.2.1 f.2.2 ∧ ∃ t, parseFieldDescriptor f.2.2 = some t) (nd : (KS.map fun f => f.2.1).Nodup)
    (hty : parseFieldDescriptor d = some ty) (hn : narrow ty x = x) (hfi : fits ty x = true) (hd : decode B pc = .ok (.putfield idx, 3)) (hp : pc + 3 = pc') (hs : ds.set i (a, .inr (C, fs.set j ((O, nm, d), x))) = ds')
    (hr : Go W Q ds' k n pc' Ls st) : Go W Q ds k n pc Ls (x :: .ref a :: st) := by
  subst hp hs hks
  have hkey : ∀ j' (f : (String × String × String) × Value), fs[j']? = some f → (fs.map Prod.fst)[j']? = some f.1 := fun j' f h => by rw [List.getElem?_map, h]; rfl
  have hne : ∀ (j' : Nat) (f : (String × String × String) × Value), fs[j']? = some f → j' ≠ j → Jvm.RoadKit.slotOf Z f.1.1 f.1.2.1 f.1.2.2 ≠ Jvm.RoadKit.slotOf Z O nm d := fun j' f hf' hj => by
    obtain ⟨L1, t1, p1⟩ := al f.1 (List.mem_of_getElem? (hkey j' f hf'))
    obtain ⟨L2, t2, p2⟩ := al (O, nm, d) (List.mem_of_getElem? (hkey j _ hf))
    refine slot_ne L1 L2 (fun e => hj ?_) p1 p2
    have q1 : ((fs.map Prod.fst).map fun f => f.2.1)[j']? = some f.1.2.1 := by rw [List.getElem?_map, hkey j' f hf']; rfl
    have q2 : ((fs.map Prod.fst).map fun f => f.2.1)[j]? = some nm := by rw [List.getElem?_map, hkey j _ hf]; rfl
    have lt : j' < ((fs.map Prod.fst).map fun f => f.2.1).length := (List.getElem?_eq_some_iff.mp q1).1
    exact (List.getElem?_inj lt nd).mp (by rw [q1, q2, e])
  obtain ⟨p, l, e, R, s, m, args, below, meth, c, Z, h0⟩ := W
  obtain ⟨k1, k2, k3, k4, k5, k6, k7, k8, rfl, rfl, rfl, rfl⟩ := K
  intro T L N X H
  obtain ⟨hge, E, F⟩ := H.2.1 _ _ ha
  obtain ⟨T', h', X', eT, W1, stp⟩ := putF X k1 k2 k5 (host := "") (Or.inl w) Via.refl rfl (F j _ hf) E (wl.imp id fun q => ⟨q.1, q.2.1, k8.trans q.2.2⟩) wi hty hn hfi (g := mkF m pc Ls (x :: .ref a :: st)) rfl rfl (hb k3 hd)
  obtain ⟨s₂, v₂, h1, rest'⟩ := hr T' _ (N.snoc X' hge) X' (by
    rw [eT]
    refine H.set ha W1 ⟨E.wr W1, fun j' f hf' => ?_⟩
    rw [List.getElem?_set] at hf'
    by_cases e : j = j'
    · subst e
      rw [if_pos rfl, if_pos (List.getElem?_eq_some_iff.mp hf).1] at hf'
      cases hf'
      exact (F j _ hf).same W1
    · rw [if_neg e] at hf'
      exact (F j' f hf').other W1 (Or.inr (hne j' f hf' fun q => e q.symm)))
  exact ⟨s₂, v₂, stp _ h1, rest'⟩
theorem go_getstatic (K : Ok W B y rm mL ret l Z h0) {idx : Nat} {O nm d : String} {x : Value} (w : (Jvm.Cond.fieldLink y.cls idx O nm d).before a0 Z = true) (S : Sta Z h0 O nm d x) (hd : decode B pc = .ok (.getstatic idx, 3)) (hp : pc + 3 = pc')
    (hr : Go W Q ds k n pc' Ls (x :: st)) : Go W Q ds k n pc Ls st := by
  subst hp
  obtain ⟨p, l, e, R, s, m, args, below, meth, c, Z, h0⟩ := W
  obtain ⟨k1, k2, k3, k4, k5, k6, k7, k8, rfl, rfl, rfl, rfl⟩ := K
  intro T L N X H
  obtain ⟨T', X', eT, stp⟩ := getS (host := "") X k1 k2 k5 w Via.refl rfl (S.ext H.1) (g := mkF m pc Ls st) rfl (hb k3 hd)
  obtain ⟨s₂, v₂, h1, rest'⟩ := hr T' L N X' (by rw [eT]; exact H)
  exact ⟨s₂, v₂, stp _ h1, rest'⟩
theorem go_new (K : Ok W B y rm mL ret l Z h0) {idx m : Nat} {C : String} {fs : List ((String × String × String) × Value)} {KS : List (String × String × String)} (w1 : (Jvm.Cond.classLink y.cls idx C).before a0 Z = true) (w2 : (Jvm.Cond.instantiable C m).before a0 Z = true) (w3 : (Jvm.Cond.initialized C).before a0 Z = true)
    (hks : fs.map Prod.fst = KS) (al : ∀ f ∈ KS, Laid Z a0 C f.1 f.2.1 f.2.2 ∧ ∃ t, parseFieldDescriptor f.2.2 = some t) (hdef : fs.map (fun f => (parseFieldDescriptor f.1.2.2).map defaultValue) = fs.map fun f => some f.2) (hd : decode B pc = .ok (.new idx, 3)) (hk : k + 1 ≤ rm.cells) (hn : n + m ≤ rm.slots) (hp : pc + 3 = pc')
    (hr : ∀ a, h0.size ≤ a → (∀ q ∈ ds, q.1 < a) → Go W Q (ds ++ [(a, .inr (C, fs))]) (k + 1) (n + m) pc' Ls (.ref a :: st)) : Go W Q ds k n pc Ls st := by
  subst hp hks
  have hfs : ∀ (j : Nat) (f : (String × String × String) × Value), fs[j]? = some f → Laid Z a0 C f.1.1 f.1.2.1 f.1.2.2 ∧ ∃ ty, parseFieldDescriptor f.1.2.2 = some ty ∧ defaultValue ty = f.2 := fun j f hf => by
    obtain ⟨L1, t1, p1⟩ := al f.1 (List.mem_map_of_mem (List.mem_of_getElem? hf))
    refine ⟨L1, t1, p1, ?_⟩
    have q : (fs.map (fun f => (parseFieldDescriptor f.1.2.2).map defaultValue))[j]? = (fs.map fun f => some f.2)[j]? := by rw [hdef]
    rw [List.getElem?_map, List.getElem?_map, hf] at q
    have q' : (parseFieldDescriptor f.1.2.2).map defaultValue = some f.2 := Option.some.inj q
    rw [p1] at q'
    exact Option.some.inj q'
  obtain ⟨p, l, e, R, s, mm, args, below, meth, c, Z, h0⟩ := W
  obtain ⟨k1, k2, k3, k4, k5, k6, k7, k8, rfl, rfl, rfl, rfl⟩ := K
  intro T L N X H
  obtain ⟨T', h', X', eT, E, A, D, -, stp⟩ := newO X k1 k2 k5 w1 w2 w3 rfl (g := mkF mm pc Ls st) rfl (hb k3 hd) hk hn
  obtain ⟨s₂, v, h1, rest⟩ := hr T.heap.size H.1.1 H.lts T' _ N X' (by
    rw [eT]
    refine H.new E ⟨A, fun j f hf => ?_⟩
    obtain ⟨hL, ty, h1, h2⟩ := hfs j f hf
    rw [← h2]
    exact D hL h1)
  exact ⟨s₂, v, stp _ h1, rest⟩
/-! clone, checkcast, arraycopy -/
theorem OkD.keep {Z : State} {h h' : Heap} {b : Nat} {d : D} {ws : List Addr} (K : Jvm.RoadKit.Keep h h' ws) (O : OkD Z h b d) (hne : b ∉ ws) : OkD Z h' b d := by
  cases d with
  | inl q => obtain ⟨c, A, S, X⟩ := O; exact ⟨c, ⟨K.2.1 b c A.1 hne, A.2⟩, S, X.keep K⟩
  | inr q => exact ⟨O.1.keep K, fun j f hf => (O.2 j f hf).keep K hne⟩
theorem HL.keep {Z : State} {h0 h h' : Heap} {ds : Hp} {i a : Nat} {d d' : D} (H : HL Z h0 ds h) (ha : ds[i]? = some (a, d)) (K : Jvm.RoadKit.Keep h h' [a]) (O : OkD Z h' a d') : HL Z h0 (ds.set i (a, d')) h' := by
  have hge := (H.2.1 i _ ha).1
  have hi : i < ds.length := (List.getElem?_eq_some_iff.mp ha).1
  have key : ∀ j (q : Nat × D), (ds.set i (a, d'))[j]? = some q → (j = i ∧ q = (a, d')) ∨ (j ≠ i ∧ ds[j]? = some q) := fun j q hq => by
    rw [List.getElem?_set] at hq
    by_cases e : i = j
    · subst e; rw [if_pos rfl, if_pos hi] at hq; exact Or.inl ⟨rfl, (Option.some.inj hq).symm⟩
    · rw [if_neg e] at hq; exact Or.inr ⟨fun x => e x.symm, hq⟩
  refine ⟨⟨Nat.le_trans H.1.1 K.1, fun b c q => ?_⟩, fun j q hq => ?_, fun j k q r hq hr he => ?_⟩
  · have hlt : b < h0.size := (Array.getElem?_eq_some_iff.mp q).1
    exact K.2.1 b c (H.1.2 b c q) fun z => by cases List.mem_singleton.mp z; exact absurd hlt (Nat.not_lt.mpr hge)
  · rcases key j q hq with ⟨-, rfl⟩ | ⟨hne, hq'⟩
    · exact ⟨hge, O⟩
    · exact ⟨(H.2.1 j q hq').1, (H.2.1 j q hq').2.keep K fun z => hne (H.2.2 j i q _ hq' ha (List.mem_singleton.mp z))⟩
  · have ad : ∀ j (q : Nat × D), (ds.set i (a, d'))[j]? = some q → ∃ q' : Nat × D, ds[j]? = some q' ∧ q'.1 = q.1 := fun j q hq => by
      rcases key j q hq with ⟨rfl, rfl⟩ | ⟨-, hq'⟩
      · exact ⟨_, ha, rfl⟩
      · exact ⟨q, hq', rfl⟩
    obtain ⟨q', a1, a2⟩ := ad j q hq
    obtain ⟨r', b1, b2⟩ := ad k r hr
    exact H.2.2 j k q' r' a1 b1 (by rw [a2, b2]; exact he)
theorem go_clone (K : Ok W B y rm mL ret l Z h0) {idx i a cap Wd : Nat} {ty : FieldType} {vs : List Value} {ad : String}
    (w1 : (Jvm.Cond.methodLink y.cls idx ⟨ad, "clone", "()Ljava/lang/Object;"⟩).before a0 Z = true) (w2 : (Jvm.Cond.sameMethod ad "java/lang/Object" "clone" "()Ljava/lang/Object;").before a0 Z = true) (w3 : (Jvm.Cond.native ⟨"java/lang/Object", "clone", "()Ljava/lang/Object;"⟩).before a0 Z = true)
    (w4 : (Jvm.Cond.instanceMethod ⟨"java/lang/Object", "clone", "()Ljava/lang/Object;"⟩).before a0 Z = true) (w5 : (Jvm.Cond.selects ad ⟨ad, "clone", "()Ljava/lang/Object;"⟩ ⟨"java/lang/Object", "clone", "()Ljava/lang/Object;"⟩).before a0 Z = true) (w6 : (Jvm.Cond.castable ad "java/lang/Cloneable").before a0 Z = true)
    (had : "[" ++ ty.toString = ad) (ha : ds[i]? = some (a, .inl (ty, vs))) (hfit : ∀ v ∈ vs, fits ty v = true) (hd : decode B pc = .ok (.invokevirtual idx, 3)) (hsz : Ls.size = mL) (hW : (st.map fun v => v.category).sum = Wd) (hf : 1 ≤ rm.frames) (hl : Wd + 14 ≤ rm.locals) (hcap : vs.length ≤ cap) (hk : k + 1 ≤ rm.cells) (hn : n + cap ≤ rm.slots) (hp : pc + 3 = pc')
    (hr : ∀ a', h0.size ≤ a' → (∀ q ∈ ds, q.1 < a') → Go W Q (ds ++ [(a', .inl (ty, vs))]) (k + 1) (n + cap) pc' Ls (.ref a' :: st)) : Go W Q ds k n pc Ls (.ref a :: st) := by
  subst hp
  obtain ⟨p, l, e, R, s, mm, args, below, meth, c, Z, h0⟩ := W
  obtain ⟨k1, k2, k3, k4, k5, k6, k7, k8, rfl, rfl, rfl, rfl⟩ := K
  intro T L N X H
  obtain ⟨hge, cl, A, S, EX⟩ := H.2.1 _ _ ha
  have FC : FitC Z cl := fitC_of A fun i hi v hv => hfit v (by
    rw [S, List.getElem?_toArray] at hv
    exact List.mem_of_getElem? hv)
  obtain ⟨T', h', X', eT, E, A', EX', stp⟩ := cloneA X k1 k2 k5 w1 w2 w3 w4 w5 w6 rfl A (had ▸ EX) FC (g := mkF mm pc Ls (.ref a :: st)) rfl (hsz.trans k4.symm) rfl (hb k3 hd) hf (W := Wd) (cap := cap) (by show 2 * 0 + _ ≤ _; omega) hl (by rw [S, List.size_toArray]; exact hcap) hk hn
  obtain ⟨s₂, v, h1, rest⟩ := hr T.heap.size H.1.1 H.lts T' _ N X' (by
    rw [eT]
    exact H.new E ⟨_, A', S, had ▸ EX'⟩)
  exact ⟨s₂, v, stp _ h1, rest⟩
theorem go_castA (K : Ok W B y rm mL ret l Z h0) {idx i a : Nat} {ty : FieldType} {vs : List Value} {Kc ad : String} (w : (Jvm.Cond.classLink y.cls idx Kc).before a0 Z = true) (wc : (Jvm.Cond.castable ad Kc).before a0 Z = true)
    (had : "[" ++ ty.toString = ad) (ha : ds[i]? = some (a, .inl (ty, vs))) (hd : decode B pc = .ok (.checkcast idx, 3)) (hp : pc + 3 = pc') (hr : Go W Q ds k n pc' Ls (.ref a :: st)) : Go W Q ds k n pc Ls (.ref a :: st) := by
  subst hp
  obtain ⟨p, l, e, R, s, mm, args, below, meth, c, Z, h0⟩ := W
  obtain ⟨k1, k2, k3, k4, k5, k6, k7, k8, rfl, rfl, rfl, rfl⟩ := K
  intro T L N X H
  obtain ⟨hge, cl, A, S, EX⟩ := H.2.1 _ _ ha
  obtain ⟨T', X', eT, stp⟩ := castY X k1 k2 k5 w rfl (Ins.of_exa (had ▸ EX) wc) (g := mkF mm pc Ls (.ref a :: st)) rfl rfl (hb k3 hd)
  obtain ⟨s₂, v, h1, rest⟩ := hr T' L N X' (by rw [eT]; exact H)
  exact ⟨s₂, v, stp _ h1, rest⟩
theorem arv_of {Z : State} {h : Heap} {a : Nat} {xs : List Int32} (O : OkD Z h a (ba xs)) (hl : xs.length < 2147483648) (hfit : ∀ x ∈ xs, fits .byte (.int x) = true) : ∃ kk, Arv Z h a kk .byte xs.length.toInt32 (xs.map Value.int) (.int 0) := by
  obtain ⟨c, A, S, -⟩ := O
  have e1 : xs.length.toInt32.toInt = (xs.length : Int) := len_toInt hl
  have e2 : xs.length.toInt32.toNatClampNeg = xs.length := by simp [Int32.toNatClampNeg, e1]
  have sz : c.slots.size = xs.length := by rw [S]; simp
  refine ⟨c.cls, c, A, rfl, by rw [e2, sz], by rw [Int32.lt_iff_toInt_lt, e1]; exact Int.not_lt.mpr (Int.natCast_nonneg _), fun i hi => ?_, fun i hi => ?_⟩
  · have hi' : i < xs.length := by omega
    rw [S]; simp [List.getD_eq_getElem?_getD, hi']
  · have hi' : i < xs.length := by omega
    have : (xs.map Value.int).getD i (.int 0) = .int xs[i] := by simp [List.getD_eq_getElem?_getD, hi']
    rw [this]; exact hfit _ (List.getElem_mem _)
theorem go_acopy (K : Ok W B y rm mL ret l Z h0) {idx i j a b sp dp m Wd : Nat} {xs ys : List Int32} {js jd jn : Int32} {ds' : Hp}
    (w1 : (Jvm.Cond.methodLink y.cls idx Jvm.Stand.acN).before a0 Z = true) (w2 : (Jvm.Cond.native Jvm.Stand.acN).before a0 Z = true) (w3 : (Jvm.Cond.static Jvm.Stand.acN).before a0 Z = true) (w4 : (Jvm.Cond.initialized "java/lang/System").before a0 Z = true)
    (ha : ds[i]? = some (a, ba xs)) (hb' : ds[j]? = some (b, ba ys)) (hxl : xs.length < 2147483648) (hyl : ys.length < 2147483648) (hxf : ∀ x ∈ xs, fits .byte (.int x) = true) (hyf : ∀ x ∈ ys, fits .byte (.int x) = true)
    (h1 : js.toInt = (sp : Int)) (h2 : jd.toInt = (dp : Int)) (h3 : jn.toInt = (m : Int)) (h4 : sp + m ≤ xs.length) (h5 : dp + m ≤ ys.length) (hd : decode B pc = .ok (.invokestatic idx, 3)) (hsz : Ls.size = mL) (hW : (st.map fun v => v.category).sum = Wd) (hf : 1 ≤ rm.frames) (hl : Wd + (nativeFrameWords "java/lang/System" "arraycopy" 5 + 11) ≤ rm.locals) (hp : pc + 3 = pc')
    (hs : ds.set j (b, ba (ys.take dp ++ (xs.drop sp).take m ++ ys.drop (dp + m))) = ds') (hr : Go W Q ds' k n pc' Ls st) : Go W Q ds k n pc Ls (.int jn :: .int jd :: .ref b :: .int js :: .ref a :: st) := by
  subst hp hs
  obtain ⟨p, l, e, R, s, mm, args, below, meth, c, Z, h0⟩ := W
  obtain ⟨k1, k2, k3, k4, k5, k6, k7, k8, rfl, rfl, rfl, rfl⟩ := K
  intro T L N X H
  obtain ⟨-, Oa⟩ := H.2.1 _ _ ha
  obtain ⟨hge, Ob⟩ := H.2.1 _ _ hb'
  obtain ⟨ka, Aa⟩ := arv_of Oa hxl hxf
  obtain ⟨kb, Ab⟩ := arv_of Ob hyl hyf
  have cl : ∀ {x : Int32} {q : Nat}, x.toInt = (q : Int) → x.toNatClampNeg = q := fun {x q} hq => by simp [Int32.toNatClampNeg, hq]
  have nn : ∀ {x : Int32} {q : Nat}, x.toInt = (q : Int) → ¬ x < 0 := fun {x q} hq => by rw [Int32.lt_iff_toInt_lt, hq]; exact Int.not_lt.mpr (Int.natCast_nonneg _)
  have lx : xs.length.toInt32.toNatClampNeg = xs.length := cl (len_toInt hxl)
  have ly : ys.length.toInt32.toNatClampNeg = ys.length := cl (len_toInt hyl)
  obtain ⟨T', h', L', X', eT, N', Kp, A', stp⟩ := cpA X k1 k2 k5 w1 w2 w3 w4 rfl Aa Ab (Or.inl ⟨rfl, rfl⟩) (nn h1) (nn h2) (nn h3) (by rw [cl h1, cl h3, lx]; exact h4) (by rw [cl h2, cl h3, ly]; exact h5) rfl (by rw [cl h2, cl h3, List.length_map]; exact h5) N hge
    (g := mkF mm pc Ls (.int jn :: .int jd :: .ref b :: .int js :: .ref a :: st)) rfl (hsz.trans k4.symm) rfl (hb k3 hd) hf (W := Wd) (by show 2 * 0 + _ ≤ _; omega) hl
  rw [cl h1, cl h2, cl h3] at A'
  have us : ((List.range m).map fun i => (xs.map Value.int).getD (sp + i) (.int 0)) = ((xs.drop sp).take m).map Value.int := by
    apply List.ext_getElem?
    intro t
    by_cases ht : t < m
    · have : sp + t < xs.length := by omega
      simp [ht, List.getD_eq_getElem?_getD, this, List.getElem?_take, List.getElem?_drop]
    · simp [ht, List.getElem?_take]
  rw [us] at A'
  obtain ⟨s₂, v, h1', rest⟩ := hr T' L' N' X' (by
    rw [eT]
    obtain ⟨c', Ar, -, Sz, -, Hs, -⟩ := A'
    obtain ⟨cb, Ab0, Sb, EXb⟩ := Ob
    refine H.keep hb' Kp ⟨c', Ar, ?_, EXb.keep Kp⟩
    rw [ly] at Sz
    apply Array.ext_getElem?
    intro t
    by_cases ht : t < c'.slots.size
    · have hl : (ys.take dp ++ (xs.drop sp).take m ++ ys.drop (dp + m)).length = ys.length := by simp; omega
      have hlt : t < (ys.take dp ++ (xs.drop sp).take m ++ ys.drop (dp + m)).length := by omega
      rw [Hs t ht, List.getElem?_toArray]
      have q : List.map Value.int ys = List.map Value.int ys := rfl
      rw [← List.map_take, ← List.map_drop, ← List.map_append, ← List.map_append, List.getD_eq_getElem?_getD, List.getElem?_map, List.getElem?_eq_getElem hlt]; rfl
    · rw [Array.getElem?_eq_none (by omega), List.getElem?_toArray, List.getElem?_eq_none (by simp; omega)])
  exact ⟨s₂, v, stp _ h1', rest⟩
end Steps
theorem at_last {ds : Hp} {e : Nat × D} : (ds ++ [e])[ds.length]? = some e := List.getElem?_concat_length
theorem at_left {ds ext : Hp} {q : Nat × D} {i : Nat} (h : ds[i]? = some q) : (ds ++ ext)[i]? = some q := by
  rw [List.getElem?_append_left (List.getElem?_eq_some_iff.mp h).1]; exact h
theorem at_ext {ds ext : Hp} {q : Nat × D} {t : Nat} (h : ext[t]? = some q) : (ds ++ ext)[ds.length + t]? = some q := by
  rw [List.getElem?_append_right (Nat.le_add_right _ _), Nat.add_sub_cancel_left]; exact h
theorem set_ext {ds ext : Hp} {e : Nat × D} {t : Nat} : (ds ++ ext).set (ds.length + t) e = ds ++ ext.set t e := by
  rw [List.set_append, if_neg (Nat.not_lt.mpr (Nat.le_add_right _ _)), Nat.add_sub_cancel_left]
theorem set_last {ds : Hp} {e e' : Nat × D} : (ds ++ [e]).set ds.length e' = ds ++ [e'] := by
  rw [List.set_append, if_neg (Nat.lt_irrefl _), Nat.sub_self]; rfl
/-! small facts on ints -/
theorem i0 : (0 : Int32).toInt = 0 := rfl
theorem ibound (x : Int32) : -2147483648 ≤ x.toInt ∧ x.toInt < 2147483648 := ⟨x.le_toInt, x.toInt_lt⟩
theorem iadd_eq {x z : Int32} (h1 : -2147483648 ≤ x.toInt + z.toInt) (h2 : x.toInt + z.toInt < 2147483648) : (x + z).toInt = x.toInt + z.toInt := XT.add32 ⟨h1, h2⟩
theorem isub_eq {x z : Int32} (h1 : -2147483648 ≤ x.toInt - z.toInt) (h2 : x.toInt - z.toInt < 2147483648) : (x - z).toInt = x.toInt - z.toInt := XT.sub32 ⟨h1, h2⟩
theorem iinj {x z : Int32} (h : x.toInt = z.toInt) : x = z := Int32.toInt_inj.mp h
theorem drop_cons {α : Type} {xs rest : List α} {x : α} {j : Nat} (h : xs.drop j = x :: rest) : xs[j]? = some x ∧ xs.drop (j + 1) = rest ∧ j < xs.length := by
  have h1 : xs[j]? = some x := by
    have q : (xs.drop j)[0]? = some x := by rw [h]; rfl
    rwa [List.getElem?_drop, Nat.add_zero] at q
  refine ⟨h1, ?_, (List.getElem?_eq_some_iff.mp h1).1⟩
  have q : (xs.drop j).drop 1 = rest := by rw [h]; rfl
  rwa [List.drop_drop] at q
theorem drop_none {α : Type} {xs : List α} {j : Nat} (h : xs.drop j = []) : xs.length ≤ j := List.drop_eq_nil_iff.mp h
theorem isucc {x : Int32} {j : Nat} (h : x.toInt = (j : Int)) (hj : j < 2147483647) : (x + 1).toInt = ((j + 1 : Nat) : Int) := by
  have q : (1 : Int32).toInt = 1 := rfl
  rw [iadd_eq (by rw [q]; omega) (by rw [q]; omega), q]; omega
theorem ilt5 {x : Int32} (h0 : 0 ≤ x.toInt) (h1 : x.toInt < 5) : x = 0 ∨ x = 1 ∨ x = 2 ∨ x = 3 ∨ x = 4 := by
  have : x.toInt = 0 ∨ x.toInt = 1 ∨ x.toInt = 2 ∨ x.toInt = 3 ∨ x.toInt = 4 := by omega
  rcases this with e | e | e | e | e
  · exact Or.inl (iinj e)
  · exact Or.inr (Or.inl (iinj e))
  · exact Or.inr (Or.inr (Or.inl (iinj e)))
  · exact Or.inr (Or.inr (Or.inr (Or.inl (iinj e))))
  · exact Or.inr (Or.inr (Or.inr (Or.inr (iinj e))))
theorem ilt4 {x : Int32} (h0 : 0 ≤ x.toInt) (h1 : x.toInt < 4) : x = 0 ∨ x = 1 ∨ x = 2 ∨ x = 3 := by
  have : x.toInt = 0 ∨ x.toInt = 1 ∨ x.toInt = 2 ∨ x.toInt = 3 := by omega
  rcases this with e | e | e | e
  · exact Or.inl (iinj e)
  · exact Or.inr (Or.inl (iinj e))
  · exact Or.inr (Or.inr (Or.inl (iinj e)))
  · exact Or.inr (Or.inr (Or.inr (iinj e)))
theorem len32 {m : Nat} (h : m < 2147483648) : (m.toInt32).toInt = (m : Int) := len_toInt h
end Jvm.Own
namespace Jvm.Pilot.@@N@@
open Jvm Jvm.ClassFile Sem Op Lib Jvm.Free Jvm.Stand Jvm.LawKit Jvm.RoadKit Jvm.Own Bundle Jvm.Pilot.@@N@@.Jvm.D
theorem pf_0 : plainFor x = true := by first | exact plainFor_of_name (by first | (simp [plainName, overriddenIn]; done) | decide +kernel) | decide +kernel

theorem pf_1 : plainFor (⟨"com/example/bridge/bridge/Multisets", "fits", "([I[I)Z"⟩ : MethodName) = true := by first | exact plainFor_of_name (by first | (simp [plainName, overriddenIn]; done) | decide +kernel) | decide +kernel
theorem d1_0 : decode prog_97_method_3_code 0 = .ok (.iconst 0, 1) := by decide +kernel
theorem d1_1 : decode prog_97_method_3_code 1 = .ok (.istore_n 2, 1) := by decide +kernel
theorem d1_2 : decode prog_97_method_3_code 2 = .ok (.iconst 0, 1) := by decide +kernel
theorem d1_3 : decode prog_97_method_3_code 3 = .ok (.istore_n 3, 1) := by decide +kernel
theorem d1_4 : decode prog_97_method_3_code 4 = .ok (.iload_n 2, 1) := by decide +kernel
theorem d1_5 : decode prog_97_method_3_code 5 = .ok (.aload_n 0, 1) := by decide +kernel
theorem d1_6 : decode prog_97_method_3_code 6 = .ok (.arraylength, 1) := by decide +kernel
theorem d1_7 : decode prog_97_method_3_code 7 = .ok (.if_icmp .ge 56, 3) := by decide +kernel
theorem d1_10 : decode prog_97_method_3_code 10 = .ok (.aload_n 0, 1) := by decide +kernel
theorem d1_11 : decode prog_97_method_3_code 11 = .ok (.iload_n 2, 1) := by decide +kernel
theorem d1_12 : decode prog_97_method_3_code 12 = .ok (.iaload, 1) := by decide +kernel
theorem d1_13 : decode prog_97_method_3_code 13 = .ok (.istore 4, 2) := by decide +kernel
theorem d1_15 : decode prog_97_method_3_code 15 = .ok (.iload_n 3, 1) := by decide +kernel
theorem d1_16 : decode prog_97_method_3_code 16 = .ok (.aload_n 0, 1) := by decide +kernel
theorem d1_17 : decode prog_97_method_3_code 17 = .ok (.arraylength, 1) := by decide +kernel
theorem d1_18 : decode prog_97_method_3_code 18 = .ok (.if_icmp .ge 17, 3) := by decide +kernel
theorem d1_21 : decode prog_97_method_3_code 21 = .ok (.aload_n 0, 1) := by decide +kernel
theorem d1_22 : decode prog_97_method_3_code 22 = .ok (.iload_n 3, 1) := by decide +kernel
theorem d1_23 : decode prog_97_method_3_code 23 = .ok (.iaload, 1) := by decide +kernel
theorem d1_24 : decode prog_97_method_3_code 24 = .ok (.iload 4, 2) := by decide +kernel
theorem d1_26 : decode prog_97_method_3_code 26 = .ok (.if_icmp .ne 9, 3) := by decide +kernel
theorem d1_29 : decode prog_97_method_3_code 29 = .ok (.iinc 3 1, 3) := by decide +kernel
theorem d1_32 : decode prog_97_method_3_code 32 = .ok (.goto (-17), 3) := by decide +kernel
theorem d1_35 : decode prog_97_method_3_code 35 = .ok (.iload_n 3, 1) := by decide +kernel
theorem d1_36 : decode prog_97_method_3_code 36 = .ok (.iload_n 2, 1) := by decide +kernel
theorem d1_37 : decode prog_97_method_3_code 37 = .ok (.isub, 1) := by decide +kernel
theorem d1_38 : decode prog_97_method_3_code 38 = .ok (.iload 4, 2) := by decide +kernel
theorem d1_40 : decode prog_97_method_3_code 40 = .ok (.aload_n 1, 1) := by decide +kernel
theorem d1_41 : decode prog_97_method_3_code 41 = .ok (.arraylength, 1) := by decide +kernel
theorem d1_42 : decode prog_97_method_3_code 42 = .ok (.if_icmp .ge 10, 3) := by decide +kernel
theorem d1_45 : decode prog_97_method_3_code 45 = .ok (.aload_n 1, 1) := by decide +kernel
theorem d1_46 : decode prog_97_method_3_code 46 = .ok (.iload 4, 2) := by decide +kernel
theorem d1_48 : decode prog_97_method_3_code 48 = .ok (.iaload, 1) := by decide +kernel
theorem d1_49 : decode prog_97_method_3_code 49 = .ok (.goto 4, 3) := by decide +kernel
theorem d1_52 : decode prog_97_method_3_code 52 = .ok (.iconst 0, 1) := by decide +kernel
theorem d1_53 : decode prog_97_method_3_code 53 = .ok (.if_icmp .le 5, 3) := by decide +kernel
theorem d1_56 : decode prog_97_method_3_code 56 = .ok (.iconst 0, 1) := by decide +kernel
theorem d1_57 : decode prog_97_method_3_code 57 = .ok (.ireturn, 1) := by decide +kernel
theorem d1_58 : decode prog_97_method_3_code 58 = .ok (.iload_n 3, 1) := by decide +kernel
theorem d1_59 : decode prog_97_method_3_code 59 = .ok (.istore_n 2, 1) := by decide +kernel
theorem d1_60 : decode prog_97_method_3_code 60 = .ok (.goto (-56), 3) := by decide +kernel
theorem d1_63 : decode prog_97_method_3_code 63 = .ok (.iconst 1, 1) := by decide +kernel
theorem d1_64 : decode prog_97_method_3_code 64 = .ok (.ireturn, 1) := by decide +kernel
theorem pf_2 : plainFor (⟨"com/example/bridge/bridge/MultisetsFitsPinLaw", "mult", "(IIIII)I"⟩ : MethodName) = true := by first | exact plainFor_of_name (by first | (simp [plainName, overriddenIn]; done) | decide +kernel) | decide +kernel
theorem d2_0 : decode method_3_code 0 = .ok (.iconst 0, 1) := by decide +kernel
theorem d2_1 : decode method_3_code 1 = .ok (.istore 5, 2) := by decide +kernel
theorem d2_3 : decode method_3_code 3 = .ok (.iload_n 1, 1) := by decide +kernel
theorem d2_4 : decode method_3_code 4 = .ok (.ifCond .le 14, 3) := by decide +kernel
theorem d2_7 : decode method_3_code 7 = .ok (.iload_n 2, 1) := by decide +kernel
theorem d2_8 : decode method_3_code 8 = .ok (.iload_n 0, 1) := by decide +kernel
theorem d2_9 : decode method_3_code 9 = .ok (.if_icmp .ne 9, 3) := by decide +kernel
theorem d2_12 : decode method_3_code 12 = .ok (.iload 5, 2) := by decide +kernel
theorem d2_14 : decode method_3_code 14 = .ok (.iconst 1, 1) := by decide +kernel
theorem d2_15 : decode method_3_code 15 = .ok (.iadd, 1) := by decide +kernel
theorem d2_16 : decode method_3_code 16 = .ok (.istore 5, 2) := by decide +kernel
theorem d2_18 : decode method_3_code 18 = .ok (.iload_n 1, 1) := by decide +kernel
theorem d2_19 : decode method_3_code 19 = .ok (.iconst 1, 1) := by decide +kernel
theorem d2_20 : decode method_3_code 20 = .ok (.if_icmp .le 14, 3) := by decide +kernel
theorem d2_23 : decode method_3_code 23 = .ok (.iload_n 3, 1) := by decide +kernel
theorem d2_24 : decode method_3_code 24 = .ok (.iload_n 0, 1) := by decide +kernel
theorem d2_25 : decode method_3_code 25 = .ok (.if_icmp .ne 9, 3) := by decide +kernel
theorem d2_28 : decode method_3_code 28 = .ok (.iload 5, 2) := by decide +kernel
theorem d2_30 : decode method_3_code 30 = .ok (.iconst 1, 1) := by decide +kernel
theorem d2_31 : decode method_3_code 31 = .ok (.iadd, 1) := by decide +kernel
theorem d2_32 : decode method_3_code 32 = .ok (.istore 5, 2) := by decide +kernel
theorem d2_34 : decode method_3_code 34 = .ok (.iload_n 1, 1) := by decide +kernel
theorem d2_35 : decode method_3_code 35 = .ok (.iconst 2, 1) := by decide +kernel
theorem d2_36 : decode method_3_code 36 = .ok (.if_icmp .le 15, 3) := by decide +kernel
theorem d2_39 : decode method_3_code 39 = .ok (.iload 4, 2) := by decide +kernel
theorem d2_41 : decode method_3_code 41 = .ok (.iload_n 0, 1) := by decide +kernel
theorem d2_42 : decode method_3_code 42 = .ok (.if_icmp .ne 9, 3) := by decide +kernel
theorem d2_45 : decode method_3_code 45 = .ok (.iload 5, 2) := by decide +kernel
theorem d2_47 : decode method_3_code 47 = .ok (.iconst 1, 1) := by decide +kernel
theorem d2_48 : decode method_3_code 48 = .ok (.iadd, 1) := by decide +kernel
theorem d2_49 : decode method_3_code 49 = .ok (.istore 5, 2) := by decide +kernel
theorem d2_51 : decode method_3_code 51 = .ok (.iload 5, 2) := by decide +kernel
theorem d2_53 : decode method_3_code 53 = .ok (.ireturn, 1) := by decide +kernel
theorem pf_3 : plainFor (⟨"com/example/bridge/bridge/MultisetsFitsPinLaw", "avail", "(IIIIII)I"⟩ : MethodName) = true := by first | exact plainFor_of_name (by first | (simp [plainName, overriddenIn]; done) | decide +kernel) | decide +kernel
theorem d3_0 : decode method_4_code 0 = .ok (.iload_n 0, 1) := by decide +kernel
theorem d3_1 : decode method_4_code 1 = .ok (.iload_n 1, 1) := by decide +kernel
theorem d3_2 : decode method_4_code 2 = .ok (.if_icmp .lt 5, 3) := by decide +kernel
theorem d3_5 : decode method_4_code 5 = .ok (.iconst 0, 1) := by decide +kernel
theorem d3_6 : decode method_4_code 6 = .ok (.ireturn, 1) := by decide +kernel
theorem d3_7 : decode method_4_code 7 = .ok (.iload_n 0, 1) := by decide +kernel
theorem d3_8 : decode method_4_code 8 = .ok (.ifCond .ne 5, 3) := by decide +kernel
theorem d3_11 : decode method_4_code 11 = .ok (.iload_n 2, 1) := by decide +kernel
theorem d3_12 : decode method_4_code 12 = .ok (.ireturn, 1) := by decide +kernel
theorem d3_13 : decode method_4_code 13 = .ok (.iload_n 0, 1) := by decide +kernel
theorem d3_14 : decode method_4_code 14 = .ok (.iconst 1, 1) := by decide +kernel
theorem d3_15 : decode method_4_code 15 = .ok (.if_icmp .ne 5, 3) := by decide +kernel
theorem d3_18 : decode method_4_code 18 = .ok (.iload_n 3, 1) := by decide +kernel
theorem d3_19 : decode method_4_code 19 = .ok (.ireturn, 1) := by decide +kernel
theorem d3_20 : decode method_4_code 20 = .ok (.iload_n 0, 1) := by decide +kernel
theorem d3_21 : decode method_4_code 21 = .ok (.iconst 2, 1) := by decide +kernel
theorem d3_22 : decode method_4_code 22 = .ok (.if_icmp .ne 6, 3) := by decide +kernel
theorem d3_25 : decode method_4_code 25 = .ok (.iload 4, 2) := by decide +kernel
theorem d3_27 : decode method_4_code 27 = .ok (.ireturn, 1) := by decide +kernel
theorem d3_28 : decode method_4_code 28 = .ok (.iload 5, 2) := by decide +kernel
theorem d3_30 : decode method_4_code 30 = .ok (.ireturn, 1) := by decide +kernel
theorem pd___I_I_Z : parseMethodDescriptor "([I[I)Z" = some ⟨[(.array .int), (.array .int)], (some .boolean)⟩ := by decide +kernel
theorem pd__IIIII_I : parseMethodDescriptor "(IIIII)I" = some ⟨[.int, .int, .int, .int, .int], (some .int)⟩ := by decide +kernel
theorem pd__IIIIII_I : parseMethodDescriptor "(IIIIII)I" = some ⟨[.int, .int, .int, .int, .int, .int], (some .int)⟩ := by decide +kernel
def own_cnt (v : Int32) : List Int32 → Nat
  | [] => 0
  | x :: r => (if x = v then 1 else 0) + own_cnt v r
def own_av (ys : List Int32) (v : Int32) : Int32 := if v.toInt < (ys.length : Int) then ys.getD v.toInt.toNat 0 else 0
def own_avl (v n c0 c1 c2 c3 : Int32) : Int32 := if v.toInt < n.toInt then (if v = 0 then c0 else if v = 1 then c1 else if v = 2 then c2 else c3) else 0
def own_fit (ms ys : List Int32) : Int32 := if ∀ m ∈ ms, ((own_cnt m ms : Nat) : Int) ≤ (own_av ys m).toInt then 1 else 0
theorem own_fit_t {ms ys : List Int32} (h : ∀ m ∈ ms, ((own_cnt m ms : Nat) : Int) ≤ (own_av ys m).toInt) : own_fit ms ys = 1 := if_pos h
theorem own_fit_f {ms ys : List Int32} {m : Int32} (hm : m ∈ ms) (h : ¬ ((own_cnt m ms : Nat) : Int) ≤ (own_av ys m).toInt) : own_fit ms ys = 0 := if_neg fun z => h (z m hm)
theorem own_av_ge {ys : List Int32} {v : Int32} (h : (ys.length : Int) ≤ v.toInt) : own_av ys v = 0 := if_neg (Int.not_lt.mpr h)
theorem own_av_lt {ys : List Int32} {v : Int32} (h0 : 0 ≤ v.toInt) (h : v.toInt < (ys.length : Int)) : ys[v.toInt.toNat]? = some (own_av ys v) := by
  unfold own_av
  rw [if_pos h, List.getD_eq_getElem?_getD, List.getElem?_eq_getElem (by omega)]; rfl
set_option maxRecDepth 65536 in
set_option maxHeartbeats 40000000 in
theorem ct_fits0 (l : Launch) (Z : State) (h0 : Heap) (a0 : Array Value) (hw : ∀ d ∈ tables_1, d.before a0 Z = true) (ds : Hp) (i1 i2 a b : Nat) (ys : List Int32) (ha1 : ds[i1]? = some (a, ia [])) (ha2 : ds[i2]? = some (b, ia ys)) (hy4 : ys.length ≤ 4) :
    Ct l Z h0 (⟨"com/example/bridge/bridge/Multisets", "fits", "([I[I)Z"⟩ : MethodName) prog_97_method_3_code 5 (some .boolean) [] ({ frames := 0, cells := 0, slots := 0, locals := 0 } : Room) #[(.ref a), (.ref b)] ds (fun v ds' => v = some (.int (own_fit [] ys)) ∧ ds' = ds) := by
  refine Ct.of_go (Ls := #[.val (.ref a), .val (.ref b), .unset, .unset, .unset]) pf_1 (fun m => by first | (simp [entryFrame, mkF, argsToLocals, Value.category, maxLocals]; done) | rfl) (fun W K => ?_)
  generalize hQ : (fun v ds' => v = some (.int (own_fit [] ys)) ∧ ds' = ds : Option Value → Hp → Prop) = Q
  refine go_iconst (pc' := 1) (v := 0) K d1_0 rfl rfl ?_
  refine go_istoreN (pc' := 2) (Ls' := #[.val (.ref a), .val (.ref b), .val (.int 0), .unset, .unset]) K d1_1 rfl rfl ?_
  refine go_iconst (pc' := 3) (v := 0) K d1_2 rfl rfl ?_
  refine go_istoreN (pc' := 4) (Ls' := #[.val (.ref a), .val (.ref b), .val (.int 0), .val (.int 0), .unset]) K d1_3 rfl rfl ?_
  refine go_iloadN (pc' := 5) K d1_4 rfl rfl ?_
  refine go_aloadN (pc' := 6) K d1_5 rfl rfl rfl ?_
  refine go_alen (pc' := 7) (i := i1) (z := 0) K ha1 d1_6 rfl rfl ?_
  refine go_ic_ge_t (pc' := 63) K d1_7 (by decide) (by decide) (by decide) ?_
  refine go_iconst (pc' := 64) (v := 1) K d1_63 rfl rfl ?_
  exact go_zret K d1_64 (by decide) (by decide) (Or.inr rfl) (by subst hQ; refine ⟨?_, rfl⟩; rw [own_fit_t (by simp)])
set_option maxRecDepth 65536 in
set_option maxHeartbeats 40000000 in
theorem ct_fits1 (l : Launch) (Z : State) (h0 : Heap) (a0 : Array Value) (hw : ∀ d ∈ tables_1, d.before a0 Z = true) (ds : Hp) (i1 i2 a b : Nat) (m0 : Int32) (ys : List Int32) (ha1 : ds[i1]? = some (a, ia [m0])) (ha2 : ds[i2]? = some (b, ia ys)) (hy4 : ys.length ≤ 4) (hp0 : 0 ≤ m0.toInt) :
    Ct l Z h0 (⟨"com/example/bridge/bridge/Multisets", "fits", "([I[I)Z"⟩ : MethodName) prog_97_method_3_code 5 (some .boolean) [] ({ frames := 0, cells := 0, slots := 0, locals := 0 } : Room) #[(.ref a), (.ref b)] ds (fun v ds' => v = some (.int (own_fit [m0] ys)) ∧ ds' = ds) := by
  refine Ct.of_go (Ls := #[.val (.ref a), .val (.ref b), .unset, .unset, .unset]) pf_1 (fun m => by first | (simp [entryFrame, mkF, argsToLocals, Value.category, maxLocals]; done) | rfl) (fun W K => ?_)
  generalize hQ : (fun v ds' => v = some (.int (own_fit [m0] ys)) ∧ ds' = ds : Option Value → Hp → Prop) = Q
  refine go_iconst (pc' := 1) (v := 0) K d1_0 rfl rfl ?_
  refine go_istoreN (pc' := 2) (Ls' := #[.val (.ref a), .val (.ref b), .val (.int 0), .unset, .unset]) K d1_1 rfl rfl ?_
  refine go_iconst (pc' := 3) (v := 0) K d1_2 rfl rfl ?_
  refine go_istoreN (pc' := 4) (Ls' := #[.val (.ref a), .val (.ref b), .val (.int 0), .val (.int 0), .unset]) K d1_3 rfl rfl ?_
  refine go_iloadN (pc' := 5) K d1_4 rfl rfl ?_
  refine go_aloadN (pc' := 6) K d1_5 rfl rfl rfl ?_
  refine go_alen (pc' := 7) (i := i1) (z := 1) K ha1 d1_6 rfl rfl ?_
  refine go_ic_ge_f (pc' := 10) K d1_7 (by decide) rfl ?_
  refine go_aloadN (pc' := 11) K d1_10 rfl rfl rfl ?_
  refine go_iloadN (pc' := 12) K d1_11 rfl rfl ?_
  refine go_iaload (pc' := 13) (i := i1) (m := 0) (x := m0) K ha1 d1_12 (by decide) rfl rfl ?_
  refine go_istore (pc' := 15) (Ls' := #[.val (.ref a), .val (.ref b), .val (.int 0), .val (.int 0), .val (.int m0)]) K d1_13 rfl rfl ?_
  refine go_iloadN (pc' := 16) K d1_15 rfl rfl ?_
  refine go_aloadN (pc' := 17) K d1_16 rfl rfl rfl ?_
  refine go_alen (pc' := 18) (i := i1) (z := 1) K ha1 d1_17 rfl rfl ?_
  refine go_ic_ge_f (pc' := 21) K d1_18 (by decide) rfl ?_
  refine go_aloadN (pc' := 22) K d1_21 rfl rfl rfl ?_
  refine go_iloadN (pc' := 23) K d1_22 rfl rfl ?_
  refine go_iaload (pc' := 24) (i := i1) (m := 0) (x := m0) K ha1 d1_23 (by decide) rfl rfl ?_
  refine go_iload (pc' := 26) K d1_24 rfl rfl ?_
  refine go_ic_ne_f (pc' := 29) K d1_26 rfl rfl ?_
  refine go_iinc (pc' := 32) (v := 1) (Ls' := #[.val (.ref a), .val (.ref b), .val (.int 0), .val (.int 1), .val (.int m0)]) K d1_29 rfl rfl rfl rfl ?_
  refine go_goto (pc' := 15) K d1_32 (by decide) (by decide) ?_
  refine go_iloadN (pc' := 16) K d1_15 rfl rfl ?_
  refine go_aloadN (pc' := 17) K d1_16 rfl rfl rfl ?_
  refine go_alen (pc' := 18) (i := i1) (z := 1) K ha1 d1_17 rfl rfl ?_
  refine go_ic_ge_t (pc' := 35) K d1_18 (by decide) (by decide) (by decide) ?_
  refine go_iloadN (pc' := 36) K d1_35 rfl rfl ?_
  refine go_iloadN (pc' := 37) K d1_36 rfl rfl ?_
  refine go_isub (pc' := 38) K d1_37 rfl ?_
  rw [show ((1 - 0) : Int32) = 1 from by decide]
  have J53 : Go W Q ds 0 0 53 #[.val (.ref a), .val (.ref b), .val (.int 0), .val (.int 1), .val (.int m0)] [(.int (own_av ys m0)), (.int 1)] := by
    refine go_ic_le (pt := 58) (pc' := 56) K d1_53 (by decide) (by decide) rfl (fun (g0 : (1 : Int32).toInt ≤ (own_av ys m0).toInt) => ?_) (fun (g0 : (own_av ys m0).toInt < (1 : Int32).toInt) => ?_)
    ·
      refine go_iloadN (pc' := 59) K d1_58 rfl rfl ?_
      refine go_istoreN (pc' := 60) (Ls' := #[.val (.ref a), .val (.ref b), .val (.int 1), .val (.int 1), .val (.int m0)]) K d1_59 rfl rfl ?_
      refine go_goto (pc' := 4) K d1_60 (by decide) (by decide) ?_
      refine go_iloadN (pc' := 5) K d1_4 rfl rfl ?_
      refine go_aloadN (pc' := 6) K d1_5 rfl rfl rfl ?_
      refine go_alen (pc' := 7) (i := i1) (z := 1) K ha1 d1_6 rfl rfl ?_
      refine go_ic_ge_t (pc' := 63) K d1_7 (by decide) (by decide) (by decide) ?_
      refine go_iconst (pc' := 64) (v := 1) K d1_63 rfl rfl ?_
      have g02 : (1 : Int) ≤ (own_av ys m0).toInt := g0
      exact go_zret K d1_64 (by decide) (by decide) (Or.inr rfl) (by subst hQ; refine ⟨?_, rfl⟩; rw [own_fit_t (by simp [own_cnt]; omega)])
    ·
      refine go_iconst (pc' := 57) (v := 0) K d1_56 rfl rfl ?_
      have g02 : (own_av ys m0).toInt < 1 := g0
      exact go_zret K d1_57 (by decide) (by decide) (Or.inl rfl) (by subst hQ; refine ⟨?_, rfl⟩; rw [own_fit_f (m := m0) (by simp) (by simp [own_cnt]; omega)])
  refine go_iload (pc' := 40) K d1_38 rfl rfl ?_
  refine go_aloadN (pc' := 41) K d1_40 rfl rfl rfl ?_
  refine go_alen (pc' := 42) (i := i2) (z := ys.length.toInt32) K ha2 d1_41 (by rw [List.length_map]) rfl ?_
  have hyl : ys.length.toInt32.toInt = (ys.length : Int) := len32 (by omega)
  refine go_ic_ge (pt := 52) (pc' := 45) K d1_42 (by decide) (by decide) rfl (fun (hav : ys.length.toInt32.toInt ≤ m0.toInt) => ?_) (fun (hav : m0.toInt < ys.length.toInt32.toInt) => ?_)
  ·
    have hzz := own_av_ge (ys := ys) (v := m0) (by omega)
    rw [hzz] at J53
    exact go_iconst (pc' := 53) (v := 0) K d1_52 rfl rfl J53
  ·
    refine go_aloadN (pc' := 46) K d1_45 rfl rfl rfl ?_
    refine go_iload (pc' := 48) K d1_46 rfl rfl ?_
    refine go_iaload (pc' := 49) (i := i2) (m := m0.toInt.toNat) (x := (own_av ys m0)) K ha2 d1_48 (by omega) (own_av_lt (by omega) (by omega)) rfl ?_
    refine go_goto (pc' := 53) K d1_49 (by decide) (by decide) ?_
    exact J53
set_option maxRecDepth 65536 in
set_option maxHeartbeats 40000000 in
theorem ct_mult1 (l : Launch) (Z : State) (h0 : Heap) (a0 : Array Value) (hw : ∀ d ∈ tables_1, d.before a0 Z = true) (ds : Hp) (v m0 m1 m2 : Int32) :
    Ct l Z h0 (⟨"com/example/bridge/bridge/MultisetsFitsPinLaw", "mult", "(IIIII)I"⟩ : MethodName) method_3_code 6 (some .int) [] ({ frames := 0, cells := 0, slots := 0, locals := 0 } : Room) #[(.int v), (.int 1), (.int m0), (.int m1), (.int m2)] ds (fun w ds' => ∃ r : Int32, w = some (.int r) ∧ r.toInt = ((own_cnt v [m0] : Nat) : Int) ∧ ds' = ds) := by
  refine Ct.of_go (Ls := #[.val (.int v), .val (.int 1), .val (.int m0), .val (.int m1), .val (.int m2), .unset]) pf_2 (fun m => by first | (simp [entryFrame, mkF, argsToLocals, Value.category, maxLocals]; done) | rfl) (fun W K => ?_)
  generalize hQ : (fun w ds' => ∃ r : Int32, w = some (.int r) ∧ r.toInt = ((own_cnt v [m0] : Nat) : Int) ∧ ds' = ds : Option Value → Hp → Prop) = Q
  refine go_iconst (pc' := 1) (v := 0) K d2_0 rfl rfl ?_
  refine go_istore (pc' := 3) (Ls' := #[.val (.int v), .val (.int 1), .val (.int m0), .val (.int m1), .val (.int m2), .val (.int 0)]) K d2_1 rfl rfl ?_
  refine go_iloadN (pc' := 4) K d2_3 rfl rfl ?_
  refine go_if_le_f (pc' := 7) K d2_4 (by decide) rfl ?_
  refine go_iloadN (pc' := 8) K d2_7 rfl rfl ?_
  refine go_iloadN (pc' := 9) K d2_8 rfl rfl ?_
  refine go_ic_ne (pt := 18) (pc' := 12) K d2_9 (by decide) (by decide) rfl (fun (e0 : m0 ≠ v) => ?_) (fun (e0 : m0 = v) => ?_)
  ·
    refine go_iloadN (pc' := 19) K d2_18 rfl rfl ?_
    refine go_iconst (pc' := 20) (v := 1) K d2_19 rfl rfl ?_
    refine go_ic_le_t (pc' := 34) K d2_20 (by decide) (by decide) (by decide) ?_
    refine go_iloadN (pc' := 35) K d2_34 rfl rfl ?_
    refine go_iconst (pc' := 36) (v := 2) K d2_35 rfl rfl ?_
    refine go_ic_le_t (pc' := 51) K d2_36 (by decide) (by decide) (by decide) ?_
    refine go_iload (pc' := 53) K d2_51 rfl rfl ?_
    exact go_iret K d2_53 (by decide) (by decide) (by subst hQ; exact ⟨_, rfl, by simp [own_cnt, e0], rfl⟩)
  ·
    refine go_iload (pc' := 14) K d2_12 rfl rfl ?_
    refine go_iconst (pc' := 15) (v := 1) K d2_14 rfl rfl ?_
    refine go_iadd (pc' := 16) K d2_15 rfl ?_
    rw [show ((0 + 1) : Int32) = 1 from by decide]
    refine go_istore (pc' := 18) (Ls' := #[.val (.int v), .val (.int 1), .val (.int m0), .val (.int m1), .val (.int m2), .val (.int 1)]) K d2_16 rfl rfl ?_
    refine go_iloadN (pc' := 19) K d2_18 rfl rfl ?_
    refine go_iconst (pc' := 20) (v := 1) K d2_19 rfl rfl ?_
    refine go_ic_le_t (pc' := 34) K d2_20 (by decide) (by decide) (by decide) ?_
    refine go_iloadN (pc' := 35) K d2_34 rfl rfl ?_
    refine go_iconst (pc' := 36) (v := 2) K d2_35 rfl rfl ?_
    refine go_ic_le_t (pc' := 51) K d2_36 (by decide) (by decide) (by decide) ?_
    refine go_iload (pc' := 53) K d2_51 rfl rfl ?_
    exact go_iret K d2_53 (by decide) (by decide) (by subst hQ; exact ⟨_, rfl, by simp [own_cnt, e0], rfl⟩)
set_option maxRecDepth 65536 in
set_option maxHeartbeats 40000000 in
theorem ct_fits2 (l : Launch) (Z : State) (h0 : Heap) (a0 : Array Value) (hw : ∀ d ∈ tables_1, d.before a0 Z = true) (ds : Hp) (i1 i2 a b : Nat) (m0 m1 : Int32) (ys : List Int32) (ha1 : ds[i1]? = some (a, ia [m0, m1])) (ha2 : ds[i2]? = some (b, ia ys)) (hy4 : ys.length ≤ 4) (hp0 : 0 ≤ m0.toInt) (hp1 : 0 ≤ m1.toInt) (hs0 : m0.toInt ≤ m1.toInt) :
    Ct l Z h0 (⟨"com/example/bridge/bridge/Multisets", "fits", "([I[I)Z"⟩ : MethodName) prog_97_method_3_code 5 (some .boolean) [] ({ frames := 0, cells := 0, slots := 0, locals := 0 } : Room) #[(.ref a), (.ref b)] ds (fun v ds' => v = some (.int (own_fit [m0, m1] ys)) ∧ ds' = ds) := by
  refine Ct.of_go (Ls := #[.val (.ref a), .val (.ref b), .unset, .unset, .unset]) pf_1 (fun m => by first | (simp [entryFrame, mkF, argsToLocals, Value.category, maxLocals]; done) | rfl) (fun W K => ?_)
  generalize hQ : (fun v ds' => v = some (.int (own_fit [m0, m1] ys)) ∧ ds' = ds : Option Value → Hp → Prop) = Q
  refine go_iconst (pc' := 1) (v := 0) K d1_0 rfl rfl ?_
  refine go_istoreN (pc' := 2) (Ls' := #[.val (.ref a), .val (.ref b), .val (.int 0), .unset, .unset]) K d1_1 rfl rfl ?_
  refine go_iconst (pc' := 3) (v := 0) K d1_2 rfl rfl ?_
  refine go_istoreN (pc' := 4) (Ls' := #[.val (.ref a), .val (.ref b), .val (.int 0), .val (.int 0), .unset]) K d1_3 rfl rfl ?_
  refine go_iloadN (pc' := 5) K d1_4 rfl rfl ?_
  refine go_aloadN (pc' := 6) K d1_5 rfl rfl rfl ?_
  refine go_alen (pc' := 7) (i := i1) (z := 2) K ha1 d1_6 rfl rfl ?_
  refine go_ic_ge_f (pc' := 10) K d1_7 (by decide) rfl ?_
  refine go_aloadN (pc' := 11) K d1_10 rfl rfl rfl ?_
  refine go_iloadN (pc' := 12) K d1_11 rfl rfl ?_
  refine go_iaload (pc' := 13) (i := i1) (m := 0) (x := m0) K ha1 d1_12 (by decide) rfl rfl ?_
  refine go_istore (pc' := 15) (Ls' := #[.val (.ref a), .val (.ref b), .val (.int 0), .val (.int 0), .val (.int m0)]) K d1_13 rfl rfl ?_
  refine go_iloadN (pc' := 16) K d1_15 rfl rfl ?_
  refine go_aloadN (pc' := 17) K d1_16 rfl rfl rfl ?_
  refine go_alen (pc' := 18) (i := i1) (z := 2) K ha1 d1_17 rfl rfl ?_
  refine go_ic_ge_f (pc' := 21) K d1_18 (by decide) rfl ?_
  refine go_aloadN (pc' := 22) K d1_21 rfl rfl rfl ?_
  refine go_iloadN (pc' := 23) K d1_22 rfl rfl ?_
  refine go_iaload (pc' := 24) (i := i1) (m := 0) (x := m0) K ha1 d1_23 (by decide) rfl rfl ?_
  refine go_iload (pc' := 26) K d1_24 rfl rfl ?_
  refine go_ic_ne_f (pc' := 29) K d1_26 rfl rfl ?_
  refine go_iinc (pc' := 32) (v := 1) (Ls' := #[.val (.ref a), .val (.ref b), .val (.int 0), .val (.int 1), .val (.int m0)]) K d1_29 rfl rfl rfl rfl ?_
  refine go_goto (pc' := 15) K d1_32 (by decide) (by decide) ?_
  refine go_iloadN (pc' := 16) K d1_15 rfl rfl ?_
  refine go_aloadN (pc' := 17) K d1_16 rfl rfl rfl ?_
  refine go_alen (pc' := 18) (i := i1) (z := 2) K ha1 d1_17 rfl rfl ?_
  refine go_ic_ge_f (pc' := 21) K d1_18 (by decide) rfl ?_
  refine go_aloadN (pc' := 22) K d1_21 rfl rfl rfl ?_
  refine go_iloadN (pc' := 23) K d1_22 rfl rfl ?_
  refine go_iaload (pc' := 24) (i := i1) (m := 1) (x := m1) K ha1 d1_23 (by decide) rfl rfl ?_
  refine go_iload (pc' := 26) K d1_24 rfl rfl ?_
  refine go_ic_ne (pt := 35) (pc' := 29) K d1_26 (by decide) (by decide) rfl (fun (e10 : m1 ≠ m0) => ?_) (fun (e10 : m1 = m0) => ?_)
  ·
    refine go_iloadN (pc' := 36) K d1_35 rfl rfl ?_
    refine go_iloadN (pc' := 37) K d1_36 rfl rfl ?_
    refine go_isub (pc' := 38) K d1_37 rfl ?_
    rw [show ((1 - 0) : Int32) = 1 from by decide]
    have J53 : Go W Q ds 0 0 53 #[.val (.ref a), .val (.ref b), .val (.int 0), .val (.int 1), .val (.int m0)] [(.int (own_av ys m0)), (.int 1)] := by
      refine go_ic_le (pt := 58) (pc' := 56) K d1_53 (by decide) (by decide) rfl (fun (g0 : (1 : Int32).toInt ≤ (own_av ys m0).toInt) => ?_) (fun (g0 : (own_av ys m0).toInt < (1 : Int32).toInt) => ?_)
      ·
        refine go_iloadN (pc' := 59) K d1_58 rfl rfl ?_
        refine go_istoreN (pc' := 60) (Ls' := #[.val (.ref a), .val (.ref b), .val (.int 1), .val (.int 1), .val (.int m0)]) K d1_59 rfl rfl ?_
        refine go_goto (pc' := 4) K d1_60 (by decide) (by decide) ?_
        refine go_iloadN (pc' := 5) K d1_4 rfl rfl ?_
        refine go_aloadN (pc' := 6) K d1_5 rfl rfl rfl ?_
        refine go_alen (pc' := 7) (i := i1) (z := 2) K ha1 d1_6 rfl rfl ?_
        refine go_ic_ge_f (pc' := 10) K d1_7 (by decide) rfl ?_
        refine go_aloadN (pc' := 11) K d1_10 rfl rfl rfl ?_
        refine go_iloadN (pc' := 12) K d1_11 rfl rfl ?_
        refine go_iaload (pc' := 13) (i := i1) (m := 1) (x := m1) K ha1 d1_12 (by decide) rfl rfl ?_
        refine go_istore (pc' := 15) (Ls' := #[.val (.ref a), .val (.ref b), .val (.int 1), .val (.int 1), .val (.int m1)]) K d1_13 rfl rfl ?_
        refine go_iloadN (pc' := 16) K d1_15 rfl rfl ?_
        refine go_aloadN (pc' := 17) K d1_16 rfl rfl rfl ?_
        refine go_alen (pc' := 18) (i := i1) (z := 2) K ha1 d1_17 rfl rfl ?_
        refine go_ic_ge_f (pc' := 21) K d1_18 (by decide) rfl ?_
        refine go_aloadN (pc' := 22) K d1_21 rfl rfl rfl ?_
        refine go_iloadN (pc' := 23) K d1_22 rfl rfl ?_
        refine go_iaload (pc' := 24) (i := i1) (m := 1) (x := m1) K ha1 d1_23 (by decide) rfl rfl ?_
        refine go_iload (pc' := 26) K d1_24 rfl rfl ?_
        refine go_ic_ne_f (pc' := 29) K d1_26 rfl rfl ?_
        refine go_iinc (pc' := 32) (v := 1) (Ls' := #[.val (.ref a), .val (.ref b), .val (.int 1), .val (.int 2), .val (.int m1)]) K d1_29 rfl rfl rfl rfl ?_
        refine go_goto (pc' := 15) K d1_32 (by decide) (by decide) ?_
        refine go_iloadN (pc' := 16) K d1_15 rfl rfl ?_
        refine go_aloadN (pc' := 17) K d1_16 rfl rfl rfl ?_
        refine go_alen (pc' := 18) (i := i1) (z := 2) K ha1 d1_17 rfl rfl ?_
        refine go_ic_ge_t (pc' := 35) K d1_18 (by decide) (by decide) (by decide) ?_
        refine go_iloadN (pc' := 36) K d1_35 rfl rfl ?_
        refine go_iloadN (pc' := 37) K d1_36 rfl rfl ?_
        refine go_isub (pc' := 38) K d1_37 rfl ?_
        rw [show ((2 - 1) : Int32) = 1 from by decide]
        have J53 : Go W Q ds 0 0 53 #[.val (.ref a), .val (.ref b), .val (.int 1), .val (.int 2), .val (.int m1)] [(.int (own_av ys m1)), (.int 1)] := by
          refine go_ic_le (pt := 58) (pc' := 56) K d1_53 (by decide) (by decide) rfl (fun (g1 : (1 : Int32).toInt ≤ (own_av ys m1).toInt) => ?_) (fun (g1 : (own_av ys m1).toInt < (1 : Int32).toInt) => ?_)
          ·
            refine go_iloadN (pc' := 59) K d1_58 rfl rfl ?_
            refine go_istoreN (pc' := 60) (Ls' := #[.val (.ref a), .val (.ref b), .val (.int 2), .val (.int 2), .val (.int m1)]) K d1_59 rfl rfl ?_
            refine go_goto (pc' := 4) K d1_60 (by decide) (by decide) ?_
            refine go_iloadN (pc' := 5) K d1_4 rfl rfl ?_
            refine go_aloadN (pc' := 6) K d1_5 rfl rfl rfl ?_
            refine go_alen (pc' := 7) (i := i1) (z := 2) K ha1 d1_6 rfl rfl ?_
            refine go_ic_ge_t (pc' := 63) K d1_7 (by decide) (by decide) (by decide) ?_
            refine go_iconst (pc' := 64) (v := 1) K d1_63 rfl rfl ?_
            have g02 : (1 : Int) ≤ (own_av ys m0).toInt := g0
            have g12 : (1 : Int) ≤ (own_av ys m1).toInt := g1
            exact go_zret K d1_64 (by decide) (by decide) (Or.inr rfl) (by subst hQ; refine ⟨?_, rfl⟩; rw [own_fit_t (by simp [own_cnt, e10, Ne.symm e10]; omega)])
          ·
            refine go_iconst (pc' := 57) (v := 0) K d1_56 rfl rfl ?_
            have g12 : (own_av ys m1).toInt < 1 := g1
            exact go_zret K d1_57 (by decide) (by decide) (Or.inl rfl) (by subst hQ; refine ⟨?_, rfl⟩; rw [own_fit_f (m := m1) (by simp) (by simp [own_cnt, e10, Ne.symm e10]; omega)])
        refine go_iload (pc' := 40) K d1_38 rfl rfl ?_
        refine go_aloadN (pc' := 41) K d1_40 rfl rfl rfl ?_
        refine go_alen (pc' := 42) (i := i2) (z := ys.length.toInt32) K ha2 d1_41 (by rw [List.length_map]) rfl ?_
        have hyl : ys.length.toInt32.toInt = (ys.length : Int) := len32 (by omega)
        refine go_ic_ge (pt := 52) (pc' := 45) K d1_42 (by decide) (by decide) rfl (fun (hav : ys.length.toInt32.toInt ≤ m1.toInt) => ?_) (fun (hav : m1.toInt < ys.length.toInt32.toInt) => ?_)
        ·
          have hzz := own_av_ge (ys := ys) (v := m1) (by omega)
          rw [hzz] at J53
          exact go_iconst (pc' := 53) (v := 0) K d1_52 rfl rfl J53
        ·
          refine go_aloadN (pc' := 46) K d1_45 rfl rfl rfl ?_
          refine go_iload (pc' := 48) K d1_46 rfl rfl ?_
          refine go_iaload (pc' := 49) (i := i2) (m := m1.toInt.toNat) (x := (own_av ys m1)) K ha2 d1_48 (by omega) (own_av_lt (by omega) (by omega)) rfl ?_
          refine go_goto (pc' := 53) K d1_49 (by decide) (by decide) ?_
          exact J53
      ·
        refine go_iconst (pc' := 57) (v := 0) K d1_56 rfl rfl ?_
        have g02 : (own_av ys m0).toInt < 1 := g0
        exact go_zret K d1_57 (by decide) (by decide) (Or.inl rfl) (by subst hQ; refine ⟨?_, rfl⟩; rw [own_fit_f (m := m0) (by simp) (by simp [own_cnt, e10, Ne.symm e10]; omega)])
    refine go_iload (pc' := 40) K d1_38 rfl rfl ?_
    refine go_aloadN (pc' := 41) K d1_40 rfl rfl rfl ?_
    refine go_alen (pc' := 42) (i := i2) (z := ys.length.toInt32) K ha2 d1_41 (by rw [List.length_map]) rfl ?_
    have hyl : ys.length.toInt32.toInt = (ys.length : Int) := len32 (by omega)
    refine go_ic_ge (pt := 52) (pc' := 45) K d1_42 (by decide) (by decide) rfl (fun (hav : ys.length.toInt32.toInt ≤ m0.toInt) => ?_) (fun (hav : m0.toInt < ys.length.toInt32.toInt) => ?_)
    ·
      have hzz := own_av_ge (ys := ys) (v := m0) (by omega)
      rw [hzz] at J53
      exact go_iconst (pc' := 53) (v := 0) K d1_52 rfl rfl J53
    ·
      refine go_aloadN (pc' := 46) K d1_45 rfl rfl rfl ?_
      refine go_iload (pc' := 48) K d1_46 rfl rfl ?_
      refine go_iaload (pc' := 49) (i := i2) (m := m0.toInt.toNat) (x := (own_av ys m0)) K ha2 d1_48 (by omega) (own_av_lt (by omega) (by omega)) rfl ?_
      refine go_goto (pc' := 53) K d1_49 (by decide) (by decide) ?_
      exact J53
  ·
    refine go_iinc (pc' := 32) (v := 1) (Ls' := #[.val (.ref a), .val (.ref b), .val (.int 0), .val (.int 2), .val (.int m0)]) K d1_29 rfl rfl rfl rfl ?_
    refine go_goto (pc' := 15) K d1_32 (by decide) (by decide) ?_
    refine go_iloadN (pc' := 16) K d1_15 rfl rfl ?_
    refine go_aloadN (pc' := 17) K d1_16 rfl rfl rfl ?_
    refine go_alen (pc' := 18) (i := i1) (z := 2) K ha1 d1_17 rfl rfl ?_
    refine go_ic_ge_t (pc' := 35) K d1_18 (by decide) (by decide) (by decide) ?_
    refine go_iloadN (pc' := 36) K d1_35 rfl rfl ?_
    refine go_iloadN (pc' := 37) K d1_36 rfl rfl ?_
    refine go_isub (pc' := 38) K d1_37 rfl ?_
    rw [show ((2 - 0) : Int32) = 2 from by decide]
    have J53 : Go W Q ds 0 0 53 #[.val (.ref a), .val (.ref b), .val (.int 0), .val (.int 2), .val (.int m0)] [(.int (own_av ys m0)), (.int 2)] := by
      refine go_ic_le (pt := 58) (pc' := 56) K d1_53 (by decide) (by decide) rfl (fun (g0 : (2 : Int32).toInt ≤ (own_av ys m0).toInt) => ?_) (fun (g0 : (own_av ys m0).toInt < (2 : Int32).toInt) => ?_)
      ·
        refine go_iloadN (pc' := 59) K d1_58 rfl rfl ?_
        refine go_istoreN (pc' := 60) (Ls' := #[.val (.ref a), .val (.ref b), .val (.int 2), .val (.int 2), .val (.int m0)]) K d1_59 rfl rfl ?_
        refine go_goto (pc' := 4) K d1_60 (by decide) (by decide) ?_
        refine go_iloadN (pc' := 5) K d1_4 rfl rfl ?_
        refine go_aloadN (pc' := 6) K d1_5 rfl rfl rfl ?_
        refine go_alen (pc' := 7) (i := i1) (z := 2) K ha1 d1_6 rfl rfl ?_
        refine go_ic_ge_t (pc' := 63) K d1_7 (by decide) (by decide) (by decide) ?_
        refine go_iconst (pc' := 64) (v := 1) K d1_63 rfl rfl ?_
        have g02 : (2 : Int) ≤ (own_av ys m0).toInt := g0
        exact go_zret K d1_64 (by decide) (by decide) (Or.inr rfl) (by subst hQ; refine ⟨?_, rfl⟩; rw [own_fit_t (by simp [own_cnt, e10]; omega)])
      ·
        refine go_iconst (pc' := 57) (v := 0) K d1_56 rfl rfl ?_
        have g02 : (own_av ys m0).toInt < 2 := g0
        exact go_zret K d1_57 (by decide) (by decide) (Or.inl rfl) (by subst hQ; refine ⟨?_, rfl⟩; rw [own_fit_f (m := m0) (by simp) (by simp [own_cnt, e10]; omega)])
    refine go_iload (pc' := 40) K d1_38 rfl rfl ?_
    refine go_aloadN (pc' := 41) K d1_40 rfl rfl rfl ?_
    refine go_alen (pc' := 42) (i := i2) (z := ys.length.toInt32) K ha2 d1_41 (by rw [List.length_map]) rfl ?_
    have hyl : ys.length.toInt32.toInt = (ys.length : Int) := len32 (by omega)
    refine go_ic_ge (pt := 52) (pc' := 45) K d1_42 (by decide) (by decide) rfl (fun (hav : ys.length.toInt32.toInt ≤ m0.toInt) => ?_) (fun (hav : m0.toInt < ys.length.toInt32.toInt) => ?_)
    ·
      have hzz := own_av_ge (ys := ys) (v := m0) (by omega)
      rw [hzz] at J53
      exact go_iconst (pc' := 53) (v := 0) K d1_52 rfl rfl J53
    ·
      refine go_aloadN (pc' := 46) K d1_45 rfl rfl rfl ?_
      refine go_iload (pc' := 48) K d1_46 rfl rfl ?_
      refine go_iaload (pc' := 49) (i := i2) (m := m0.toInt.toNat) (x := (own_av ys m0)) K ha2 d1_48 (by omega) (own_av_lt (by omega) (by omega)) rfl ?_
      refine go_goto (pc' := 53) K d1_49 (by decide) (by decide) ?_
      exact J53
set_option maxRecDepth 65536 in
set_option maxHeartbeats 40000000 in
theorem ct_mult2 (l : Launch) (Z : State) (h0 : Heap) (a0 : Array Value) (hw : ∀ d ∈ tables_1, d.before a0 Z = true) (ds : Hp) (v m0 m1 m2 : Int32) :
    Ct l Z h0 (⟨"com/example/bridge/bridge/MultisetsFitsPinLaw", "mult", "(IIIII)I"⟩ : MethodName) method_3_code 6 (some .int) [] ({ frames := 0, cells := 0, slots := 0, locals := 0 } : Room) #[(.int v), (.int 2), (.int m0), (.int m1), (.int m2)] ds (fun w ds' => ∃ r : Int32, w = some (.int r) ∧ r.toInt = ((own_cnt v [m0, m1] : Nat) : Int) ∧ ds' = ds) := by
  refine Ct.of_go (Ls := #[.val (.int v), .val (.int 2), .val (.int m0), .val (.int m1), .val (.int m2), .unset]) pf_2 (fun m => by first | (simp [entryFrame, mkF, argsToLocals, Value.category, maxLocals]; done) | rfl) (fun W K => ?_)
  generalize hQ : (fun w ds' => ∃ r : Int32, w = some (.int r) ∧ r.toInt = ((own_cnt v [m0, m1] : Nat) : Int) ∧ ds' = ds : Option Value → Hp → Prop) = Q
  refine go_iconst (pc' := 1) (v := 0) K d2_0 rfl rfl ?_
  refine go_istore (pc' := 3) (Ls' := #[.val (.int v), .val (.int 2), .val (.int m0), .val (.int m1), .val (.int m2), .val (.int 0)]) K d2_1 rfl rfl ?_
  refine go_iloadN (pc' := 4) K d2_3 rfl rfl ?_
  refine go_if_le_f (pc' := 7) K d2_4 (by decide) rfl ?_
  refine go_iloadN (pc' := 8) K d2_7 rfl rfl ?_
  refine go_iloadN (pc' := 9) K d2_8 rfl rfl ?_
  refine go_ic_ne (pt := 18) (pc' := 12) K d2_9 (by decide) (by decide) rfl (fun (e0 : m0 ≠ v) => ?_) (fun (e0 : m0 = v) => ?_)
  ·
    refine go_iloadN (pc' := 19) K d2_18 rfl rfl ?_
    refine go_iconst (pc' := 20) (v := 1) K d2_19 rfl rfl ?_
    refine go_ic_le_f (pc' := 23) K d2_20 (by decide) rfl ?_
    refine go_iloadN (pc' := 24) K d2_23 rfl rfl ?_
    refine go_iloadN (pc' := 25) K d2_24 rfl rfl ?_
    refine go_ic_ne (pt := 34) (pc' := 28) K d2_25 (by decide) (by decide) rfl (fun (e1 : m1 ≠ v) => ?_) (fun (e1 : m1 = v) => ?_)
    ·
      refine go_iloadN (pc' := 35) K d2_34 rfl rfl ?_
      refine go_iconst (pc' := 36) (v := 2) K d2_35 rfl rfl ?_
      refine go_ic_le_t (pc' := 51) K d2_36 (by decide) (by decide) (by decide) ?_
      refine go_iload (pc' := 53) K d2_51 rfl rfl ?_
      exact go_iret K d2_53 (by decide) (by decide) (by subst hQ; exact ⟨_, rfl, by simp [own_cnt, e0, e1], rfl⟩)
    ·
      refine go_iload (pc' := 30) K d2_28 rfl rfl ?_
      refine go_iconst (pc' := 31) (v := 1) K d2_30 rfl rfl ?_
      refine go_iadd (pc' := 32) K d2_31 rfl ?_
      rw [show ((0 + 1) : Int32) = 1 from by decide]
      refine go_istore (pc' := 34) (Ls' := #[.val (.int v), .val (.int 2), .val (.int m0), .val (.int m1), .val (.int m2), .val (.int 1)]) K d2_32 rfl rfl ?_
      refine go_iloadN (pc' := 35) K d2_34 rfl rfl ?_
      refine go_iconst (pc' := 36) (v := 2) K d2_35 rfl rfl ?_
      refine go_ic_le_t (pc' := 51) K d2_36 (by decide) (by decide) (by decide) ?_
      refine go_iload (pc' := 53) K d2_51 rfl rfl ?_
      exact go_iret K d2_53 (by decide) (by decide) (by subst hQ; exact ⟨_, rfl, by simp [own_cnt, e0, e1], rfl⟩)
  ·
    refine go_iload (pc' := 14) K d2_12 rfl rfl ?_
    refine go_iconst (pc' := 15) (v := 1) K d2_14 rfl rfl ?_
    refine go_iadd (pc' := 16) K d2_15 rfl ?_
    rw [show ((0 + 1) : Int32) = 1 from by decide]
    refine go_istore (pc' := 18) (Ls' := #[.val (.int v), .val (.int 2), .val (.int m0), .val (.int m1), .val (.int m2), .val (.int 1)]) K d2_16 rfl rfl ?_
    refine go_iloadN (pc' := 19) K d2_18 rfl rfl ?_
    refine go_iconst (pc' := 20) (v := 1) K d2_19 rfl rfl ?_
    refine go_ic_le_f (pc' := 23) K d2_20 (by decide) rfl ?_
    refine go_iloadN (pc' := 24) K d2_23 rfl rfl ?_
    refine go_iloadN (pc' := 25) K d2_24 rfl rfl ?_
    refine go_ic_ne (pt := 34) (pc' := 28) K d2_25 (by decide) (by decide) rfl (fun (e1 : m1 ≠ v) => ?_) (fun (e1 : m1 = v) => ?_)
    ·
      refine go_iloadN (pc' := 35) K d2_34 rfl rfl ?_
      refine go_iconst (pc' := 36) (v := 2) K d2_35 rfl rfl ?_
      refine go_ic_le_t (pc' := 51) K d2_36 (by decide) (by decide) (by decide) ?_
      refine go_iload (pc' := 53) K d2_51 rfl rfl ?_
      exact go_iret K d2_53 (by decide) (by decide) (by subst hQ; exact ⟨_, rfl, by simp [own_cnt, e0, e1], rfl⟩)
    ·
      refine go_iload (pc' := 30) K d2_28 rfl rfl ?_
      refine go_iconst (pc' := 31) (v := 1) K d2_30 rfl rfl ?_
      refine go_iadd (pc' := 32) K d2_31 rfl ?_
      rw [show ((1 + 1) : Int32) = 2 from by decide]
      refine go_istore (pc' := 34) (Ls' := #[.val (.int v), .val (.int 2), .val (.int m0), .val (.int m1), .val (.int m2), .val (.int 2)]) K d2_32 rfl rfl ?_
      refine go_iloadN (pc' := 35) K d2_34 rfl rfl ?_
      refine go_iconst (pc' := 36) (v := 2) K d2_35 rfl rfl ?_
      refine go_ic_le_t (pc' := 51) K d2_36 (by decide) (by decide) (by decide) ?_
      refine go_iload (pc' := 53) K d2_51 rfl rfl ?_
      exact go_iret K d2_53 (by decide) (by decide) (by subst hQ; exact ⟨_, rfl, by simp [own_cnt, e0, e1], rfl⟩)
set_option maxRecDepth 65536 in
set_option maxHeartbeats 40000000 in
theorem ct_fits3 (l : Launch) (Z : State) (h0 : Heap) (a0 : Array Value) (hw : ∀ d ∈ tables_1, d.before a0 Z = true) (ds : Hp) (i1 i2 a b : Nat) (m0 m1 m2 : Int32) (ys : List Int32) (ha1 : ds[i1]? = some (a, ia [m0, m1, m2])) (ha2 : ds[i2]? = some (b, ia ys)) (hy4 : ys.length ≤ 4) (hp0 : 0 ≤ m0.toInt) (hp1 : 0 ≤ m1.toInt) (hp2 : 0 ≤ m2.toInt) (hs0 : m0.toInt ≤ m1.toInt) (hs1 : m1.toInt ≤ m2.toInt) :
    Ct l Z h0 (⟨"com/example/bridge/bridge/Multisets", "fits", "([I[I)Z"⟩ : MethodName) prog_97_method_3_code 5 (some .boolean) [] ({ frames := 0, cells := 0, slots := 0, locals := 0 } : Room) #[(.ref a), (.ref b)] ds (fun v ds' => v = some (.int (own_fit [m0, m1, m2] ys)) ∧ ds' = ds) := by
  refine Ct.of_go (Ls := #[.val (.ref a), .val (.ref b), .unset, .unset, .unset]) pf_1 (fun m => by first | (simp [entryFrame, mkF, argsToLocals, Value.category, maxLocals]; done) | rfl) (fun W K => ?_)
  generalize hQ : (fun v ds' => v = some (.int (own_fit [m0, m1, m2] ys)) ∧ ds' = ds : Option Value → Hp → Prop) = Q
  refine go_iconst (pc' := 1) (v := 0) K d1_0 rfl rfl ?_
  refine go_istoreN (pc' := 2) (Ls' := #[.val (.ref a), .val (.ref b), .val (.int 0), .unset, .unset]) K d1_1 rfl rfl ?_
  refine go_iconst (pc' := 3) (v := 0) K d1_2 rfl rfl ?_
  refine go_istoreN (pc' := 4) (Ls' := #[.val (.ref a), .val (.ref b), .val (.int 0), .val (.int 0), .unset]) K d1_3 rfl rfl ?_
  refine go_iloadN (pc' := 5) K d1_4 rfl rfl ?_
  refine go_aloadN (pc' := 6) K d1_5 rfl rfl rfl ?_
  refine go_alen (pc' := 7) (i := i1) (z := 3) K ha1 d1_6 rfl rfl ?_
  refine go_ic_ge_f (pc' := 10) K d1_7 (by decide) rfl ?_
  refine go_aloadN (pc' := 11) K d1_10 rfl rfl rfl ?_
  refine go_iloadN (pc' := 12) K d1_11 rfl rfl ?_
  refine go_iaload (pc' := 13) (i := i1) (m := 0) (x := m0) K ha1 d1_12 (by decide) rfl rfl ?_
  refine go_istore (pc' := 15) (Ls' := #[.val (.ref a), .val (.ref b), .val (.int 0), .val (.int 0), .val (.int m0)]) K d1_13 rfl rfl ?_
  refine go_iloadN (pc' := 16) K d1_15 rfl rfl ?_
  refine go_aloadN (pc' := 17) K d1_16 rfl rfl rfl ?_
  refine go_alen (pc' := 18) (i := i1) (z := 3) K ha1 d1_17 rfl rfl ?_
  refine go_ic_ge_f (pc' := 21) K d1_18 (by decide) rfl ?_
  refine go_aloadN (pc' := 22) K d1_21 rfl rfl rfl ?_
  refine go_iloadN (pc' := 23) K d1_22 rfl rfl ?_
  refine go_iaload (pc' := 24) (i := i1) (m := 0) (x := m0) K ha1 d1_23 (by decide) rfl rfl ?_
  refine go_iload (pc' := 26) K d1_24 rfl rfl ?_
  refine go_ic_ne_f (pc' := 29) K d1_26 rfl rfl ?_
  refine go_iinc (pc' := 32) (v := 1) (Ls' := #[.val (.ref a), .val (.ref b), .val (.int 0), .val (.int 1), .val (.int m0)]) K d1_29 rfl rfl rfl rfl ?_
  refine go_goto (pc' := 15) K d1_32 (by decide) (by decide) ?_
  refine go_iloadN (pc' := 16) K d1_15 rfl rfl ?_
  refine go_aloadN (pc' := 17) K d1_16 rfl rfl rfl ?_
  refine go_alen (pc' := 18) (i := i1) (z := 3) K ha1 d1_17 rfl rfl ?_
  refine go_ic_ge_f (pc' := 21) K d1_18 (by decide) rfl ?_
  refine go_aloadN (pc' := 22) K d1_21 rfl rfl rfl ?_
  refine go_iloadN (pc' := 23) K d1_22 rfl rfl ?_
  refine go_iaload (pc' := 24) (i := i1) (m := 1) (x := m1) K ha1 d1_23 (by decide) rfl rfl ?_
  refine go_iload (pc' := 26) K d1_24 rfl rfl ?_
  refine go_ic_ne (pt := 35) (pc' := 29) K d1_26 (by decide) (by decide) rfl (fun (e10 : m1 ≠ m0) => ?_) (fun (e10 : m1 = m0) => ?_)
  ·
    refine go_iloadN (pc' := 36) K d1_35 rfl rfl ?_
    refine go_iloadN (pc' := 37) K d1_36 rfl rfl ?_
    refine go_isub (pc' := 38) K d1_37 rfl ?_
    rw [show ((1 - 0) : Int32) = 1 from by decide]
    have J53 : Go W Q ds 0 0 53 #[.val (.ref a), .val (.ref b), .val (.int 0), .val (.int 1), .val (.int m0)] [(.int (own_av ys m0)), (.int 1)] := by
      refine go_ic_le (pt := 58) (pc' := 56) K d1_53 (by decide) (by decide) rfl (fun (g0 : (1 : Int32).toInt ≤ (own_av ys m0).toInt) => ?_) (fun (g0 : (own_av ys m0).toInt < (1 : Int32).toInt) => ?_)
      ·
        refine go_iloadN (pc' := 59) K d1_58 rfl rfl ?_
        refine go_istoreN (pc' := 60) (Ls' := #[.val (.ref a), .val (.ref b), .val (.int 1), .val (.int 1), .val (.int m0)]) K d1_59 rfl rfl ?_
        refine go_goto (pc' := 4) K d1_60 (by decide) (by decide) ?_
        refine go_iloadN (pc' := 5) K d1_4 rfl rfl ?_
        refine go_aloadN (pc' := 6) K d1_5 rfl rfl rfl ?_
        refine go_alen (pc' := 7) (i := i1) (z := 3) K ha1 d1_6 rfl rfl ?_
        refine go_ic_ge_f (pc' := 10) K d1_7 (by decide) rfl ?_
        refine go_aloadN (pc' := 11) K d1_10 rfl rfl rfl ?_
        refine go_iloadN (pc' := 12) K d1_11 rfl rfl ?_
        refine go_iaload (pc' := 13) (i := i1) (m := 1) (x := m1) K ha1 d1_12 (by decide) rfl rfl ?_
        refine go_istore (pc' := 15) (Ls' := #[.val (.ref a), .val (.ref b), .val (.int 1), .val (.int 1), .val (.int m1)]) K d1_13 rfl rfl ?_
        refine go_iloadN (pc' := 16) K d1_15 rfl rfl ?_
        refine go_aloadN (pc' := 17) K d1_16 rfl rfl rfl ?_
        refine go_alen (pc' := 18) (i := i1) (z := 3) K ha1 d1_17 rfl rfl ?_
        refine go_ic_ge_f (pc' := 21) K d1_18 (by decide) rfl ?_
        refine go_aloadN (pc' := 22) K d1_21 rfl rfl rfl ?_
        refine go_iloadN (pc' := 23) K d1_22 rfl rfl ?_
        refine go_iaload (pc' := 24) (i := i1) (m := 1) (x := m1) K ha1 d1_23 (by decide) rfl rfl ?_
        refine go_iload (pc' := 26) K d1_24 rfl rfl ?_
        refine go_ic_ne_f (pc' := 29) K d1_26 rfl rfl ?_
        refine go_iinc (pc' := 32) (v := 1) (Ls' := #[.val (.ref a), .val (.ref b), .val (.int 1), .val (.int 2), .val (.int m1)]) K d1_29 rfl rfl rfl rfl ?_
        refine go_goto (pc' := 15) K d1_32 (by decide) (by decide) ?_
        refine go_iloadN (pc' := 16) K d1_15 rfl rfl ?_
        refine go_aloadN (pc' := 17) K d1_16 rfl rfl rfl ?_
        refine go_alen (pc' := 18) (i := i1) (z := 3) K ha1 d1_17 rfl rfl ?_
        refine go_ic_ge_f (pc' := 21) K d1_18 (by decide) rfl ?_
        refine go_aloadN (pc' := 22) K d1_21 rfl rfl rfl ?_
        refine go_iloadN (pc' := 23) K d1_22 rfl rfl ?_
        refine go_iaload (pc' := 24) (i := i1) (m := 2) (x := m2) K ha1 d1_23 (by decide) rfl rfl ?_
        refine go_iload (pc' := 26) K d1_24 rfl rfl ?_
        refine go_ic_ne (pt := 35) (pc' := 29) K d1_26 (by decide) (by decide) rfl (fun (e21 : m2 ≠ m1) => ?_) (fun (e21 : m2 = m1) => ?_)
        ·
          refine go_iloadN (pc' := 36) K d1_35 rfl rfl ?_
          refine go_iloadN (pc' := 37) K d1_36 rfl rfl ?_
          refine go_isub (pc' := 38) K d1_37 rfl ?_
          rw [show ((2 - 1) : Int32) = 1 from by decide]
          have J53 : Go W Q ds 0 0 53 #[.val (.ref a), .val (.ref b), .val (.int 1), .val (.int 2), .val (.int m1)] [(.int (own_av ys m1)), (.int 1)] := by
            refine go_ic_le (pt := 58) (pc' := 56) K d1_53 (by decide) (by decide) rfl (fun (g1 : (1 : Int32).toInt ≤ (own_av ys m1).toInt) => ?_) (fun (g1 : (own_av ys m1).toInt < (1 : Int32).toInt) => ?_)
            ·
              refine go_iloadN (pc' := 59) K d1_58 rfl rfl ?_
              refine go_istoreN (pc' := 60) (Ls' := #[.val (.ref a), .val (.ref b), .val (.int 2), .val (.int 2), .val (.int m1)]) K d1_59 rfl rfl ?_
              refine go_goto (pc' := 4) K d1_60 (by decide) (by decide) ?_
              refine go_iloadN (pc' := 5) K d1_4 rfl rfl ?_
              refine go_aloadN (pc' := 6) K d1_5 rfl rfl rfl ?_
              refine go_alen (pc' := 7) (i := i1) (z := 3) K ha1 d1_6 rfl rfl ?_
              refine go_ic_ge_f (pc' := 10) K d1_7 (by decide) rfl ?_
              refine go_aloadN (pc' := 11) K d1_10 rfl rfl rfl ?_
              refine go_iloadN (pc' := 12) K d1_11 rfl rfl ?_
              refine go_iaload (pc' := 13) (i := i1) (m := 2) (x := m2) K ha1 d1_12 (by decide) rfl rfl ?_
              refine go_istore (pc' := 15) (Ls' := #[.val (.ref a), .val (.ref b), .val (.int 2), .val (.int 2), .val (.int m2)]) K d1_13 rfl rfl ?_
              refine go_iloadN (pc' := 16) K d1_15 rfl rfl ?_
              refine go_aloadN (pc' := 17) K d1_16 rfl rfl rfl ?_
              refine go_alen (pc' := 18) (i := i1) (z := 3) K ha1 d1_17 rfl rfl ?_
              refine go_ic_ge_f (pc' := 21) K d1_18 (by decide) rfl ?_
              refine go_aloadN (pc' := 22) K d1_21 rfl rfl rfl ?_
              refine go_iloadN (pc' := 23) K d1_22 rfl rfl ?_
              refine go_iaload (pc' := 24) (i := i1) (m := 2) (x := m2) K ha1 d1_23 (by decide) rfl rfl ?_
              refine go_iload (pc' := 26) K d1_24 rfl rfl ?_
              refine go_ic_ne_f (pc' := 29) K d1_26 rfl rfl ?_
              refine go_iinc (pc' := 32) (v := 1) (Ls' := #[.val (.ref a), .val (.ref b), .val (.int 2), .val (.int 3), .val (.int m2)]) K d1_29 rfl rfl rfl rfl ?_
              refine go_goto (pc' := 15) K d1_32 (by decide) (by decide) ?_
              refine go_iloadN (pc' := 16) K d1_15 rfl rfl ?_
              refine go_aloadN (pc' := 17) K d1_16 rfl rfl rfl ?_
              refine go_alen (pc' := 18) (i := i1) (z := 3) K ha1 d1_17 rfl rfl ?_
              refine go_ic_ge_t (pc' := 35) K d1_18 (by decide) (by decide) (by decide) ?_
              refine go_iloadN (pc' := 36) K d1_35 rfl rfl ?_
              refine go_iloadN (pc' := 37) K d1_36 rfl rfl ?_
              refine go_isub (pc' := 38) K d1_37 rfl ?_
              rw [show ((3 - 2) : Int32) = 1 from by decide]
              have J53 : Go W Q ds 0 0 53 #[.val (.ref a), .val (.ref b), .val (.int 2), .val (.int 3), .val (.int m2)] [(.int (own_av ys m2)), (.int 1)] := by
                refine go_ic_le (pt := 58) (pc' := 56) K d1_53 (by decide) (by decide) rfl (fun (g2 : (1 : Int32).toInt ≤ (own_av ys m2).toInt) => ?_) (fun (g2 : (own_av ys m2).toInt < (1 : Int32).toInt) => ?_)
                ·
                  refine go_iloadN (pc' := 59) K d1_58 rfl rfl ?_
                  refine go_istoreN (pc' := 60) (Ls' := #[.val (.ref a), .val (.ref b), .val (.int 3), .val (.int 3), .val (.int m2)]) K d1_59 rfl rfl ?_
                  refine go_goto (pc' := 4) K d1_60 (by decide) (by decide) ?_
                  refine go_iloadN (pc' := 5) K d1_4 rfl rfl ?_
                  refine go_aloadN (pc' := 6) K d1_5 rfl rfl rfl ?_
                  refine go_alen (pc' := 7) (i := i1) (z := 3) K ha1 d1_6 rfl rfl ?_
                  refine go_ic_ge_t (pc' := 63) K d1_7 (by decide) (by decide) (by decide) ?_
                  refine go_iconst (pc' := 64) (v := 1) K d1_63 rfl rfl ?_
                  have e20x : m2 ≠ m0 := fun z => e10 (iinj (by have z2 := congrArg Int32.toInt z; omega))
                  have g02 : (1 : Int) ≤ (own_av ys m0).toInt := g0
                  have g12 : (1 : Int) ≤ (own_av ys m1).toInt := g1
                  have g22 : (1 : Int) ≤ (own_av ys m2).toInt := g2
                  exact go_zret K d1_64 (by decide) (by decide) (Or.inr rfl) (by subst hQ; refine ⟨?_, rfl⟩; rw [own_fit_t (by simp [own_cnt, e20x, Ne.symm e20x, e10, Ne.symm e10, e21, Ne.symm e21]; omega)])
                ·
                  refine go_iconst (pc' := 57) (v := 0) K d1_56 rfl rfl ?_
                  have e20x : m2 ≠ m0 := fun z => e10 (iinj (by have z2 := congrArg Int32.toInt z; omega))
                  have g22 : (own_av ys m2).toInt < 1 := g2
                  exact go_zret K d1_57 (by decide) (by decide) (Or.inl rfl) (by subst hQ; refine ⟨?_, rfl⟩; rw [own_fit_f (m := m2) (by simp) (by simp [own_cnt, e20x, Ne.symm e20x, e10, Ne.symm e10, e21, Ne.symm e21]; omega)])
              refine go_iload (pc' := 40) K d1_38 rfl rfl ?_
              refine go_aloadN (pc' := 41) K d1_40 rfl rfl rfl ?_
              refine go_alen (pc' := 42) (i := i2) (z := ys.length.toInt32) K ha2 d1_41 (by rw [List.length_map]) rfl ?_
              have hyl : ys.length.toInt32.toInt = (ys.length : Int) := len32 (by omega)
              refine go_ic_ge (pt := 52) (pc' := 45) K d1_42 (by decide) (by decide) rfl (fun (hav : ys.length.toInt32.toInt ≤ m2.toInt) => ?_) (fun (hav : m2.toInt < ys.length.toInt32.toInt) => ?_)
              ·
                have hzz := own_av_ge (ys := ys) (v := m2) (by omega)
                rw [hzz] at J53
                exact go_iconst (pc' := 53) (v := 0) K d1_52 rfl rfl J53
              ·
                refine go_aloadN (pc' := 46) K d1_45 rfl rfl rfl ?_
                refine go_iload (pc' := 48) K d1_46 rfl rfl ?_
                refine go_iaload (pc' := 49) (i := i2) (m := m2.toInt.toNat) (x := (own_av ys m2)) K ha2 d1_48 (by omega) (own_av_lt (by omega) (by omega)) rfl ?_
                refine go_goto (pc' := 53) K d1_49 (by decide) (by decide) ?_
                exact J53
            ·
              refine go_iconst (pc' := 57) (v := 0) K d1_56 rfl rfl ?_
              have e20x : m2 ≠ m0 := fun z => e10 (iinj (by have z2 := congrArg Int32.toInt z; omega))
              have g12 : (own_av ys m1).toInt < 1 := g1
              exact go_zret K d1_57 (by decide) (by decide) (Or.inl rfl) (by subst hQ; refine ⟨?_, rfl⟩; rw [own_fit_f (m := m1) (by simp) (by simp [own_cnt, e20x, Ne.symm e20x, e10, Ne.symm e10, e21, Ne.symm e21]; omega)])
          refine go_iload (pc' := 40) K d1_38 rfl rfl ?_
          refine go_aloadN (pc' := 41) K d1_40 rfl rfl rfl ?_
          refine go_alen (pc' := 42) (i := i2) (z := ys.length.toInt32) K ha2 d1_41 (by rw [List.length_map]) rfl ?_
          have hyl : ys.length.toInt32.toInt = (ys.length : Int) := len32 (by omega)
          refine go_ic_ge (pt := 52) (pc' := 45) K d1_42 (by decide) (by decide) rfl (fun (hav : ys.length.toInt32.toInt ≤ m1.toInt) => ?_) (fun (hav : m1.toInt < ys.length.toInt32.toInt) => ?_)
          ·
            have hzz := own_av_ge (ys := ys) (v := m1) (by omega)
            rw [hzz] at J53
            exact go_iconst (pc' := 53) (v := 0) K d1_52 rfl rfl J53
          ·
            refine go_aloadN (pc' := 46) K d1_45 rfl rfl rfl ?_
            refine go_iload (pc' := 48) K d1_46 rfl rfl ?_
            refine go_iaload (pc' := 49) (i := i2) (m := m1.toInt.toNat) (x := (own_av ys m1)) K ha2 d1_48 (by omega) (own_av_lt (by omega) (by omega)) rfl ?_
            refine go_goto (pc' := 53) K d1_49 (by decide) (by decide) ?_
            exact J53
        ·
          refine go_iinc (pc' := 32) (v := 1) (Ls' := #[.val (.ref a), .val (.ref b), .val (.int 1), .val (.int 3), .val (.int m1)]) K d1_29 rfl rfl rfl rfl ?_
          refine go_goto (pc' := 15) K d1_32 (by decide) (by decide) ?_
          refine go_iloadN (pc' := 16) K d1_15 rfl rfl ?_
          refine go_aloadN (pc' := 17) K d1_16 rfl rfl rfl ?_
          refine go_alen (pc' := 18) (i := i1) (z := 3) K ha1 d1_17 rfl rfl ?_
          refine go_ic_ge_t (pc' := 35) K d1_18 (by decide) (by decide) (by decide) ?_
          refine go_iloadN (pc' := 36) K d1_35 rfl rfl ?_
          refine go_iloadN (pc' := 37) K d1_36 rfl rfl ?_
          refine go_isub (pc' := 38) K d1_37 rfl ?_
          rw [show ((3 - 1) : Int32) = 2 from by decide]
          have J53 : Go W Q ds 0 0 53 #[.val (.ref a), .val (.ref b), .val (.int 1), .val (.int 3), .val (.int m1)] [(.int (own_av ys m1)), (.int 2)] := by
            refine go_ic_le (pt := 58) (pc' := 56) K d1_53 (by decide) (by decide) rfl (fun (g1 : (2 : Int32).toInt ≤ (own_av ys m1).toInt) => ?_) (fun (g1 : (own_av ys m1).toInt < (2 : Int32).toInt) => ?_)
            ·
              refine go_iloadN (pc' := 59) K d1_58 rfl rfl ?_
              refine go_istoreN (pc' := 60) (Ls' := #[.val (.ref a), .val (.ref b), .val (.int 3), .val (.int 3), .val (.int m1)]) K d1_59 rfl rfl ?_
              refine go_goto (pc' := 4) K d1_60 (by decide) (by decide) ?_
              refine go_iloadN (pc' := 5) K d1_4 rfl rfl ?_
              refine go_aloadN (pc' := 6) K d1_5 rfl rfl rfl ?_
              refine go_alen (pc' := 7) (i := i1) (z := 3) K ha1 d1_6 rfl rfl ?_
              refine go_ic_ge_t (pc' := 63) K d1_7 (by decide) (by decide) (by decide) ?_
              refine go_iconst (pc' := 64) (v := 1) K d1_63 rfl rfl ?_
              have e20x : m2 ≠ m0 := fun z => e10 (iinj (by have z2 := congrArg Int32.toInt z; omega))
              have g02 : (1 : Int) ≤ (own_av ys m0).toInt := g0
              have g12 : (2 : Int) ≤ (own_av ys m1).toInt := g1
              exact go_zret K d1_64 (by decide) (by decide) (Or.inr rfl) (by subst hQ; refine ⟨?_, rfl⟩; rw [own_fit_t (by simp [own_cnt, e20x, Ne.symm e20x, e10, Ne.symm e10, e21]; omega)])
            ·
              refine go_iconst (pc' := 57) (v := 0) K d1_56 rfl rfl ?_
              have e20x : m2 ≠ m0 := fun z => e10 (iinj (by have z2 := congrArg Int32.toInt z; omega))
              have g12 : (own_av ys m1).toInt < 2 := g1
              exact go_zret K d1_57 (by decide) (by decide) (Or.inl rfl) (by subst hQ; refine ⟨?_, rfl⟩; rw [own_fit_f (m := m1) (by simp) (by simp [own_cnt, e20x, Ne.symm e20x, e10, Ne.symm e10, e21]; omega)])
          refine go_iload (pc' := 40) K d1_38 rfl rfl ?_
          refine go_aloadN (pc' := 41) K d1_40 rfl rfl rfl ?_
          refine go_alen (pc' := 42) (i := i2) (z := ys.length.toInt32) K ha2 d1_41 (by rw [List.length_map]) rfl ?_
          have hyl : ys.length.toInt32.toInt = (ys.length : Int) := len32 (by omega)
          refine go_ic_ge (pt := 52) (pc' := 45) K d1_42 (by decide) (by decide) rfl (fun (hav : ys.length.toInt32.toInt ≤ m1.toInt) => ?_) (fun (hav : m1.toInt < ys.length.toInt32.toInt) => ?_)
          ·
            have hzz := own_av_ge (ys := ys) (v := m1) (by omega)
            rw [hzz] at J53
            exact go_iconst (pc' := 53) (v := 0) K d1_52 rfl rfl J53
          ·
            refine go_aloadN (pc' := 46) K d1_45 rfl rfl rfl ?_
            refine go_iload (pc' := 48) K d1_46 rfl rfl ?_
            refine go_iaload (pc' := 49) (i := i2) (m := m1.toInt.toNat) (x := (own_av ys m1)) K ha2 d1_48 (by omega) (own_av_lt (by omega) (by omega)) rfl ?_
            refine go_goto (pc' := 53) K d1_49 (by decide) (by decide) ?_
            exact J53
      ·
        refine go_iconst (pc' := 57) (v := 0) K d1_56 rfl rfl ?_
        have e20x : m2 ≠ m0 := fun z => e10 (iinj (by have z2 := congrArg Int32.toInt z; omega))
        have g02 : (own_av ys m0).toInt < 1 := g0
        exact go_zret K d1_57 (by decide) (by decide) (Or.inl rfl) (by subst hQ; refine ⟨?_, rfl⟩; rw [own_fit_f (m := m0) (by simp) (by simp [own_cnt, e20x, Ne.symm e20x, e10, Ne.symm e10]; omega)])
    refine go_iload (pc' := 40) K d1_38 rfl rfl ?_
    refine go_aloadN (pc' := 41) K d1_40 rfl rfl rfl ?_
    refine go_alen (pc' := 42) (i := i2) (z := ys.length.toInt32) K ha2 d1_41 (by rw [List.length_map]) rfl ?_
    have hyl : ys.length.toInt32.toInt = (ys.length : Int) := len32 (by omega)
    refine go_ic_ge (pt := 52) (pc' := 45) K d1_42 (by decide) (by decide) rfl (fun (hav : ys.length.toInt32.toInt ≤ m0.toInt) => ?_) (fun (hav : m0.toInt < ys.length.toInt32.toInt) => ?_)
    ·
      have hzz := own_av_ge (ys := ys) (v := m0) (by omega)
      rw [hzz] at J53
      exact go_iconst (pc' := 53) (v := 0) K d1_52 rfl rfl J53
    ·
      refine go_aloadN (pc' := 46) K d1_45 rfl rfl rfl ?_
      refine go_iload (pc' := 48) K d1_46 rfl rfl ?_
      refine go_iaload (pc' := 49) (i := i2) (m := m0.toInt.toNat) (x := (own_av ys m0)) K ha2 d1_48 (by omega) (own_av_lt (by omega) (by omega)) rfl ?_
      refine go_goto (pc' := 53) K d1_49 (by decide) (by decide) ?_
      exact J53
  ·
    refine go_iinc (pc' := 32) (v := 1) (Ls' := #[.val (.ref a), .val (.ref b), .val (.int 0), .val (.int 2), .val (.int m0)]) K d1_29 rfl rfl rfl rfl ?_
    refine go_goto (pc' := 15) K d1_32 (by decide) (by decide) ?_
    refine go_iloadN (pc' := 16) K d1_15 rfl rfl ?_
    refine go_aloadN (pc' := 17) K d1_16 rfl rfl rfl ?_
    refine go_alen (pc' := 18) (i := i1) (z := 3) K ha1 d1_17 rfl rfl ?_
    refine go_ic_ge_f (pc' := 21) K d1_18 (by decide) rfl ?_
    refine go_aloadN (pc' := 22) K d1_21 rfl rfl rfl ?_
    refine go_iloadN (pc' := 23) K d1_22 rfl rfl ?_
    refine go_iaload (pc' := 24) (i := i1) (m := 2) (x := m2) K ha1 d1_23 (by decide) rfl rfl ?_
    refine go_iload (pc' := 26) K d1_24 rfl rfl ?_
    refine go_ic_ne (pt := 35) (pc' := 29) K d1_26 (by decide) (by decide) rfl (fun (e20 : m2 ≠ m0) => ?_) (fun (e20 : m2 = m0) => ?_)
    ·
      refine go_iloadN (pc' := 36) K d1_35 rfl rfl ?_
      refine go_iloadN (pc' := 37) K d1_36 rfl rfl ?_
      refine go_isub (pc' := 38) K d1_37 rfl ?_
      rw [show ((2 - 0) : Int32) = 2 from by decide]
      have J53 : Go W Q ds 0 0 53 #[.val (.ref a), .val (.ref b), .val (.int 0), .val (.int 2), .val (.int m0)] [(.int (own_av ys m0)), (.int 2)] := by
        refine go_ic_le (pt := 58) (pc' := 56) K d1_53 (by decide) (by decide) rfl (fun (g0 : (2 : Int32).toInt ≤ (own_av ys m0).toInt) => ?_) (fun (g0 : (own_av ys m0).toInt < (2 : Int32).toInt) => ?_)
        ·
          refine go_iloadN (pc' := 59) K d1_58 rfl rfl ?_
          refine go_istoreN (pc' := 60) (Ls' := #[.val (.ref a), .val (.ref b), .val (.int 2), .val (.int 2), .val (.int m0)]) K d1_59 rfl rfl ?_
          refine go_goto (pc' := 4) K d1_60 (by decide) (by decide) ?_
          refine go_iloadN (pc' := 5) K d1_4 rfl rfl ?_
          refine go_aloadN (pc' := 6) K d1_5 rfl rfl rfl ?_
          refine go_alen (pc' := 7) (i := i1) (z := 3) K ha1 d1_6 rfl rfl ?_
          refine go_ic_ge_f (pc' := 10) K d1_7 (by decide) rfl ?_
          refine go_aloadN (pc' := 11) K d1_10 rfl rfl rfl ?_
          refine go_iloadN (pc' := 12) K d1_11 rfl rfl ?_
          refine go_iaload (pc' := 13) (i := i1) (m := 2) (x := m2) K ha1 d1_12 (by decide) rfl rfl ?_
          refine go_istore (pc' := 15) (Ls' := #[.val (.ref a), .val (.ref b), .val (.int 2), .val (.int 2), .val (.int m2)]) K d1_13 rfl rfl ?_
          refine go_iloadN (pc' := 16) K d1_15 rfl rfl ?_
          refine go_aloadN (pc' := 17) K d1_16 rfl rfl rfl ?_
          refine go_alen (pc' := 18) (i := i1) (z := 3) K ha1 d1_17 rfl rfl ?_
          refine go_ic_ge_f (pc' := 21) K d1_18 (by decide) rfl ?_
          refine go_aloadN (pc' := 22) K d1_21 rfl rfl rfl ?_
          refine go_iloadN (pc' := 23) K d1_22 rfl rfl ?_
          refine go_iaload (pc' := 24) (i := i1) (m := 2) (x := m2) K ha1 d1_23 (by decide) rfl rfl ?_
          refine go_iload (pc' := 26) K d1_24 rfl rfl ?_
          refine go_ic_ne_f (pc' := 29) K d1_26 rfl rfl ?_
          refine go_iinc (pc' := 32) (v := 1) (Ls' := #[.val (.ref a), .val (.ref b), .val (.int 2), .val (.int 3), .val (.int m2)]) K d1_29 rfl rfl rfl rfl ?_
          refine go_goto (pc' := 15) K d1_32 (by decide) (by decide) ?_
          refine go_iloadN (pc' := 16) K d1_15 rfl rfl ?_
          refine go_aloadN (pc' := 17) K d1_16 rfl rfl rfl ?_
          refine go_alen (pc' := 18) (i := i1) (z := 3) K ha1 d1_17 rfl rfl ?_
          refine go_ic_ge_t (pc' := 35) K d1_18 (by decide) (by decide) (by decide) ?_
          refine go_iloadN (pc' := 36) K d1_35 rfl rfl ?_
          refine go_iloadN (pc' := 37) K d1_36 rfl rfl ?_
          refine go_isub (pc' := 38) K d1_37 rfl ?_
          rw [show ((3 - 2) : Int32) = 1 from by decide]
          have J53 : Go W Q ds 0 0 53 #[.val (.ref a), .val (.ref b), .val (.int 2), .val (.int 3), .val (.int m2)] [(.int (own_av ys m2)), (.int 1)] := by
            refine go_ic_le (pt := 58) (pc' := 56) K d1_53 (by decide) (by decide) rfl (fun (g2 : (1 : Int32).toInt ≤ (own_av ys m2).toInt) => ?_) (fun (g2 : (own_av ys m2).toInt < (1 : Int32).toInt) => ?_)
            ·
              refine go_iloadN (pc' := 59) K d1_58 rfl rfl ?_
              refine go_istoreN (pc' := 60) (Ls' := #[.val (.ref a), .val (.ref b), .val (.int 3), .val (.int 3), .val (.int m2)]) K d1_59 rfl rfl ?_
              refine go_goto (pc' := 4) K d1_60 (by decide) (by decide) ?_
              refine go_iloadN (pc' := 5) K d1_4 rfl rfl ?_
              refine go_aloadN (pc' := 6) K d1_5 rfl rfl rfl ?_
              refine go_alen (pc' := 7) (i := i1) (z := 3) K ha1 d1_6 rfl rfl ?_
              refine go_ic_ge_t (pc' := 63) K d1_7 (by decide) (by decide) (by decide) ?_
              refine go_iconst (pc' := 64) (v := 1) K d1_63 rfl rfl ?_
              have g02 : (2 : Int) ≤ (own_av ys m0).toInt := g0
              have g22 : (1 : Int) ≤ (own_av ys m2).toInt := g2
              exact go_zret K d1_64 (by decide) (by decide) (Or.inr rfl) (by subst hQ; refine ⟨?_, rfl⟩; rw [own_fit_t (by simp [own_cnt, e10, e20, Ne.symm e20]; omega)])
            ·
              refine go_iconst (pc' := 57) (v := 0) K d1_56 rfl rfl ?_
              have g22 : (own_av ys m2).toInt < 1 := g2
              exact go_zret K d1_57 (by decide) (by decide) (Or.inl rfl) (by subst hQ; refine ⟨?_, rfl⟩; rw [own_fit_f (m := m2) (by simp) (by simp [own_cnt, e10, e20, Ne.symm e20]; omega)])
          refine go_iload (pc' := 40) K d1_38 rfl rfl ?_
          refine go_aloadN (pc' := 41) K d1_40 rfl rfl rfl ?_
          refine go_alen (pc' := 42) (i := i2) (z := ys.length.toInt32) K ha2 d1_41 (by rw [List.length_map]) rfl ?_
          have hyl : ys.length.toInt32.toInt = (ys.length : Int) := len32 (by omega)
          refine go_ic_ge (pt := 52) (pc' := 45) K d1_42 (by decide) (by decide) rfl (fun (hav : ys.length.toInt32.toInt ≤ m2.toInt) => ?_) (fun (hav : m2.toInt < ys.length.toInt32.toInt) => ?_)
          ·
            have hzz := own_av_ge (ys := ys) (v := m2) (by omega)
            rw [hzz] at J53
            exact go_iconst (pc' := 53) (v := 0) K d1_52 rfl rfl J53
          ·
            refine go_aloadN (pc' := 46) K d1_45 rfl rfl rfl ?_
            refine go_iload (pc' := 48) K d1_46 rfl rfl ?_
            refine go_iaload (pc' := 49) (i := i2) (m := m2.toInt.toNat) (x := (own_av ys m2)) K ha2 d1_48 (by omega) (own_av_lt (by omega) (by omega)) rfl ?_
            refine go_goto (pc' := 53) K d1_49 (by decide) (by decide) ?_
            exact J53
        ·
          refine go_iconst (pc' := 57) (v := 0) K d1_56 rfl rfl ?_
          have g02 : (own_av ys m0).toInt < 2 := g0
          exact go_zret K d1_57 (by decide) (by decide) (Or.inl rfl) (by subst hQ; refine ⟨?_, rfl⟩; rw [own_fit_f (m := m0) (by simp) (by simp [own_cnt, e10, e20, Ne.symm e20]; omega)])
      refine go_iload (pc' := 40) K d1_38 rfl rfl ?_
      refine go_aloadN (pc' := 41) K d1_40 rfl rfl rfl ?_
      refine go_alen (pc' := 42) (i := i2) (z := ys.length.toInt32) K ha2 d1_41 (by rw [List.length_map]) rfl ?_
      have hyl : ys.length.toInt32.toInt = (ys.length : Int) := len32 (by omega)
      refine go_ic_ge (pt := 52) (pc' := 45) K d1_42 (by decide) (by decide) rfl (fun (hav : ys.length.toInt32.toInt ≤ m0.toInt) => ?_) (fun (hav : m0.toInt < ys.length.toInt32.toInt) => ?_)
      ·
        have hzz := own_av_ge (ys := ys) (v := m0) (by omega)
        rw [hzz] at J53
        exact go_iconst (pc' := 53) (v := 0) K d1_52 rfl rfl J53
      ·
        refine go_aloadN (pc' := 46) K d1_45 rfl rfl rfl ?_
        refine go_iload (pc' := 48) K d1_46 rfl rfl ?_
        refine go_iaload (pc' := 49) (i := i2) (m := m0.toInt.toNat) (x := (own_av ys m0)) K ha2 d1_48 (by omega) (own_av_lt (by omega) (by omega)) rfl ?_
        refine go_goto (pc' := 53) K d1_49 (by decide) (by decide) ?_
        exact J53
    ·
      refine go_iinc (pc' := 32) (v := 1) (Ls' := #[.val (.ref a), .val (.ref b), .val (.int 0), .val (.int 3), .val (.int m0)]) K d1_29 rfl rfl rfl rfl ?_
      refine go_goto (pc' := 15) K d1_32 (by decide) (by decide) ?_
      refine go_iloadN (pc' := 16) K d1_15 rfl rfl ?_
      refine go_aloadN (pc' := 17) K d1_16 rfl rfl rfl ?_
      refine go_alen (pc' := 18) (i := i1) (z := 3) K ha1 d1_17 rfl rfl ?_
      refine go_ic_ge_t (pc' := 35) K d1_18 (by decide) (by decide) (by decide) ?_
      refine go_iloadN (pc' := 36) K d1_35 rfl rfl ?_
      refine go_iloadN (pc' := 37) K d1_36 rfl rfl ?_
      refine go_isub (pc' := 38) K d1_37 rfl ?_
      rw [show ((3 - 0) : Int32) = 3 from by decide]
      have J53 : Go W Q ds 0 0 53 #[.val (.ref a), .val (.ref b), .val (.int 0), .val (.int 3), .val (.int m0)] [(.int (own_av ys m0)), (.int 3)] := by
        refine go_ic_le (pt := 58) (pc' := 56) K d1_53 (by decide) (by decide) rfl (fun (g0 : (3 : Int32).toInt ≤ (own_av ys m0).toInt) => ?_) (fun (g0 : (own_av ys m0).toInt < (3 : Int32).toInt) => ?_)
        ·
          refine go_iloadN (pc' := 59) K d1_58 rfl rfl ?_
          refine go_istoreN (pc' := 60) (Ls' := #[.val (.ref a), .val (.ref b), .val (.int 3), .val (.int 3), .val (.int m0)]) K d1_59 rfl rfl ?_
          refine go_goto (pc' := 4) K d1_60 (by decide) (by decide) ?_
          refine go_iloadN (pc' := 5) K d1_4 rfl rfl ?_
          refine go_aloadN (pc' := 6) K d1_5 rfl rfl rfl ?_
          refine go_alen (pc' := 7) (i := i1) (z := 3) K ha1 d1_6 rfl rfl ?_
          refine go_ic_ge_t (pc' := 63) K d1_7 (by decide) (by decide) (by decide) ?_
          refine go_iconst (pc' := 64) (v := 1) K d1_63 rfl rfl ?_
          have g02 : (3 : Int) ≤ (own_av ys m0).toInt := g0
          exact go_zret K d1_64 (by decide) (by decide) (Or.inr rfl) (by subst hQ; refine ⟨?_, rfl⟩; rw [own_fit_t (by simp [own_cnt, e10, e20]; omega)])
        ·
          refine go_iconst (pc' := 57) (v := 0) K d1_56 rfl rfl ?_
          have g02 : (own_av ys m0).toInt < 3 := g0
          exact go_zret K d1_57 (by decide) (by decide) (Or.inl rfl) (by subst hQ; refine ⟨?_, rfl⟩; rw [own_fit_f (m := m0) (by simp) (by simp [own_cnt, e10, e20]; omega)])
      refine go_iload (pc' := 40) K d1_38 rfl rfl ?_
      refine go_aloadN (pc' := 41) K d1_40 rfl rfl rfl ?_
      refine go_alen (pc' := 42) (i := i2) (z := ys.length.toInt32) K ha2 d1_41 (by rw [List.length_map]) rfl ?_
      have hyl : ys.length.toInt32.toInt = (ys.length : Int) := len32 (by omega)
      refine go_ic_ge (pt := 52) (pc' := 45) K d1_42 (by decide) (by decide) rfl (fun (hav : ys.length.toInt32.toInt ≤ m0.toInt) => ?_) (fun (hav : m0.toInt < ys.length.toInt32.toInt) => ?_)
      ·
        have hzz := own_av_ge (ys := ys) (v := m0) (by omega)
        rw [hzz] at J53
        exact go_iconst (pc' := 53) (v := 0) K d1_52 rfl rfl J53
      ·
        refine go_aloadN (pc' := 46) K d1_45 rfl rfl rfl ?_
        refine go_iload (pc' := 48) K d1_46 rfl rfl ?_
        refine go_iaload (pc' := 49) (i := i2) (m := m0.toInt.toNat) (x := (own_av ys m0)) K ha2 d1_48 (by omega) (own_av_lt (by omega) (by omega)) rfl ?_
        refine go_goto (pc' := 53) K d1_49 (by decide) (by decide) ?_
        exact J53
set_option maxRecDepth 65536 in
set_option maxHeartbeats 40000000 in
theorem ct_mult3 (l : Launch) (Z : State) (h0 : Heap) (a0 : Array Value) (hw : ∀ d ∈ tables_1, d.before a0 Z = true) (ds : Hp) (v m0 m1 m2 : Int32) :
    Ct l Z h0 (⟨"com/example/bridge/bridge/MultisetsFitsPinLaw", "mult", "(IIIII)I"⟩ : MethodName) method_3_code 6 (some .int) [] ({ frames := 0, cells := 0, slots := 0, locals := 0 } : Room) #[(.int v), (.int 3), (.int m0), (.int m1), (.int m2)] ds (fun w ds' => ∃ r : Int32, w = some (.int r) ∧ r.toInt = ((own_cnt v [m0, m1, m2] : Nat) : Int) ∧ ds' = ds) := by
  refine Ct.of_go (Ls := #[.val (.int v), .val (.int 3), .val (.int m0), .val (.int m1), .val (.int m2), .unset]) pf_2 (fun m => by first | (simp [entryFrame, mkF, argsToLocals, Value.category, maxLocals]; done) | rfl) (fun W K => ?_)
  generalize hQ : (fun w ds' => ∃ r : Int32, w = some (.int r) ∧ r.toInt = ((own_cnt v [m0, m1, m2] : Nat) : Int) ∧ ds' = ds : Option Value → Hp → Prop) = Q
  refine go_iconst (pc' := 1) (v := 0) K d2_0 rfl rfl ?_
  refine go_istore (pc' := 3) (Ls' := #[.val (.int v), .val (.int 3), .val (.int m0), .val (.int m1), .val (.int m2), .val (.int 0)]) K d2_1 rfl rfl ?_
  refine go_iloadN (pc' := 4) K d2_3 rfl rfl ?_
  refine go_if_le_f (pc' := 7) K d2_4 (by decide) rfl ?_
  refine go_iloadN (pc' := 8) K d2_7 rfl rfl ?_
  refine go_iloadN (pc' := 9) K d2_8 rfl rfl ?_
  refine go_ic_ne (pt := 18) (pc' := 12) K d2_9 (by decide) (by decide) rfl (fun (e0 : m0 ≠ v) => ?_) (fun (e0 : m0 = v) => ?_)
  ·
    refine go_iloadN (pc' := 19) K d2_18 rfl rfl ?_
    refine go_iconst (pc' := 20) (v := 1) K d2_19 rfl rfl ?_
    refine go_ic_le_f (pc' := 23) K d2_20 (by decide) rfl ?_
    refine go_iloadN (pc' := 24) K d2_23 rfl rfl ?_
    refine go_iloadN (pc' := 25) K d2_24 rfl rfl ?_
    refine go_ic_ne (pt := 34) (pc' := 28) K d2_25 (by decide) (by decide) rfl (fun (e1 : m1 ≠ v) => ?_) (fun (e1 : m1 = v) => ?_)
    ·
      refine go_iloadN (pc' := 35) K d2_34 rfl rfl ?_
      refine go_iconst (pc' := 36) (v := 2) K d2_35 rfl rfl ?_
      refine go_ic_le_f (pc' := 39) K d2_36 (by decide) rfl ?_
      refine go_iload (pc' := 41) K d2_39 rfl rfl ?_
      refine go_iloadN (pc' := 42) K d2_41 rfl rfl ?_
      refine go_ic_ne (pt := 51) (pc' := 45) K d2_42 (by decide) (by decide) rfl (fun (e2 : m2 ≠ v) => ?_) (fun (e2 : m2 = v) => ?_)
      ·
        refine go_iload (pc' := 53) K d2_51 rfl rfl ?_
        exact go_iret K d2_53 (by decide) (by decide) (by subst hQ; exact ⟨_, rfl, by simp [own_cnt, e0, e1, e2], rfl⟩)
      ·
        refine go_iload (pc' := 47) K d2_45 rfl rfl ?_
        refine go_iconst (pc' := 48) (v := 1) K d2_47 rfl rfl ?_
        refine go_iadd (pc' := 49) K d2_48 rfl ?_
        rw [show ((0 + 1) : Int32) = 1 from by decide]
        refine go_istore (pc' := 51) (Ls' := #[.val (.int v), .val (.int 3), .val (.int m0), .val (.int m1), .val (.int m2), .val (.int 1)]) K d2_49 rfl rfl ?_
        refine go_iload (pc' := 53) K d2_51 rfl rfl ?_
        exact go_iret K d2_53 (by decide) (by decide) (by subst hQ; exact ⟨_, rfl, by simp [own_cnt, e0, e1, e2], rfl⟩)
    ·
      refine go_iload (pc' := 30) K d2_28 rfl rfl ?_
      refine go_iconst (pc' := 31) (v := 1) K d2_30 rfl rfl ?_
      refine go_iadd (pc' := 32) K d2_31 rfl ?_
      rw [show ((0 + 1) : Int32) = 1 from by decide]
      refine go_istore (pc' := 34) (Ls' := #[.val (.int v), .val (.int 3), .val (.int m0), .val (.int m1), .val (.int m2), .val (.int 1)]) K d2_32 rfl rfl ?_
      refine go_iloadN (pc' := 35) K d2_34 rfl rfl ?_
      refine go_iconst (pc' := 36) (v := 2) K d2_35 rfl rfl ?_
      refine go_ic_le_f (pc' := 39) K d2_36 (by decide) rfl ?_
      refine go_iload (pc' := 41) K d2_39 rfl rfl ?_
      refine go_iloadN (pc' := 42) K d2_41 rfl rfl ?_
      refine go_ic_ne (pt := 51) (pc' := 45) K d2_42 (by decide) (by decide) rfl (fun (e2 : m2 ≠ v) => ?_) (fun (e2 : m2 = v) => ?_)
      ·
        refine go_iload (pc' := 53) K d2_51 rfl rfl ?_
        exact go_iret K d2_53 (by decide) (by decide) (by subst hQ; exact ⟨_, rfl, by simp [own_cnt, e0, e1, e2], rfl⟩)
      ·
        refine go_iload (pc' := 47) K d2_45 rfl rfl ?_
        refine go_iconst (pc' := 48) (v := 1) K d2_47 rfl rfl ?_
        refine go_iadd (pc' := 49) K d2_48 rfl ?_
        rw [show ((1 + 1) : Int32) = 2 from by decide]
        refine go_istore (pc' := 51) (Ls' := #[.val (.int v), .val (.int 3), .val (.int m0), .val (.int m1), .val (.int m2), .val (.int 2)]) K d2_49 rfl rfl ?_
        refine go_iload (pc' := 53) K d2_51 rfl rfl ?_
        exact go_iret K d2_53 (by decide) (by decide) (by subst hQ; exact ⟨_, rfl, by simp [own_cnt, e0, e1, e2], rfl⟩)
  ·
    refine go_iload (pc' := 14) K d2_12 rfl rfl ?_
    refine go_iconst (pc' := 15) (v := 1) K d2_14 rfl rfl ?_
    refine go_iadd (pc' := 16) K d2_15 rfl ?_
    rw [show ((0 + 1) : Int32) = 1 from by decide]
    refine go_istore (pc' := 18) (Ls' := #[.val (.int v), .val (.int 3), .val (.int m0), .val (.int m1), .val (.int m2), .val (.int 1)]) K d2_16 rfl rfl ?_
    refine go_iloadN (pc' := 19) K d2_18 rfl rfl ?_
    refine go_iconst (pc' := 20) (v := 1) K d2_19 rfl rfl ?_
    refine go_ic_le_f (pc' := 23) K d2_20 (by decide) rfl ?_
    refine go_iloadN (pc' := 24) K d2_23 rfl rfl ?_
    refine go_iloadN (pc' := 25) K d2_24 rfl rfl ?_
    refine go_ic_ne (pt := 34) (pc' := 28) K d2_25 (by decide) (by decide) rfl (fun (e1 : m1 ≠ v) => ?_) (fun (e1 : m1 = v) => ?_)
    ·
      refine go_iloadN (pc' := 35) K d2_34 rfl rfl ?_
      refine go_iconst (pc' := 36) (v := 2) K d2_35 rfl rfl ?_
      refine go_ic_le_f (pc' := 39) K d2_36 (by decide) rfl ?_
      refine go_iload (pc' := 41) K d2_39 rfl rfl ?_
      refine go_iloadN (pc' := 42) K d2_41 rfl rfl ?_
      refine go_ic_ne (pt := 51) (pc' := 45) K d2_42 (by decide) (by decide) rfl (fun (e2 : m2 ≠ v) => ?_) (fun (e2 : m2 = v) => ?_)
      ·
        refine go_iload (pc' := 53) K d2_51 rfl rfl ?_
        exact go_iret K d2_53 (by decide) (by decide) (by subst hQ; exact ⟨_, rfl, by simp [own_cnt, e0, e1, e2], rfl⟩)
      ·
        refine go_iload (pc' := 47) K d2_45 rfl rfl ?_
        refine go_iconst (pc' := 48) (v := 1) K d2_47 rfl rfl ?_
        refine go_iadd (pc' := 49) K d2_48 rfl ?_
        rw [show ((1 + 1) : Int32) = 2 from by decide]
        refine go_istore (pc' := 51) (Ls' := #[.val (.int v), .val (.int 3), .val (.int m0), .val (.int m1), .val (.int m2), .val (.int 2)]) K d2_49 rfl rfl ?_
        refine go_iload (pc' := 53) K d2_51 rfl rfl ?_
        exact go_iret K d2_53 (by decide) (by decide) (by subst hQ; exact ⟨_, rfl, by simp [own_cnt, e0, e1, e2], rfl⟩)
    ·
      refine go_iload (pc' := 30) K d2_28 rfl rfl ?_
      refine go_iconst (pc' := 31) (v := 1) K d2_30 rfl rfl ?_
      refine go_iadd (pc' := 32) K d2_31 rfl ?_
      rw [show ((1 + 1) : Int32) = 2 from by decide]
      refine go_istore (pc' := 34) (Ls' := #[.val (.int v), .val (.int 3), .val (.int m0), .val (.int m1), .val (.int m2), .val (.int 2)]) K d2_32 rfl rfl ?_
      refine go_iloadN (pc' := 35) K d2_34 rfl rfl ?_
      refine go_iconst (pc' := 36) (v := 2) K d2_35 rfl rfl ?_
      refine go_ic_le_f (pc' := 39) K d2_36 (by decide) rfl ?_
      refine go_iload (pc' := 41) K d2_39 rfl rfl ?_
      refine go_iloadN (pc' := 42) K d2_41 rfl rfl ?_
      refine go_ic_ne (pt := 51) (pc' := 45) K d2_42 (by decide) (by decide) rfl (fun (e2 : m2 ≠ v) => ?_) (fun (e2 : m2 = v) => ?_)
      ·
        refine go_iload (pc' := 53) K d2_51 rfl rfl ?_
        exact go_iret K d2_53 (by decide) (by decide) (by subst hQ; exact ⟨_, rfl, by simp [own_cnt, e0, e1, e2], rfl⟩)
      ·
        refine go_iload (pc' := 47) K d2_45 rfl rfl ?_
        refine go_iconst (pc' := 48) (v := 1) K d2_47 rfl rfl ?_
        refine go_iadd (pc' := 49) K d2_48 rfl ?_
        rw [show ((2 + 1) : Int32) = 3 from by decide]
        refine go_istore (pc' := 51) (Ls' := #[.val (.int v), .val (.int 3), .val (.int m0), .val (.int m1), .val (.int m2), .val (.int 3)]) K d2_49 rfl rfl ?_
        refine go_iload (pc' := 53) K d2_51 rfl rfl ?_
        exact go_iret K d2_53 (by decide) (by decide) (by subst hQ; exact ⟨_, rfl, by simp [own_cnt, e0, e1, e2], rfl⟩)
set_option maxRecDepth 65536 in
set_option maxHeartbeats 40000000 in
theorem ct_avail (l : Launch) (Z : State) (h0 : Heap) (a0 : Array Value) (hw : ∀ d ∈ tables_1, d.before a0 Z = true) (ds : Hp) (v n c0 c1 c2 c3 : Int32) :
    Ct l Z h0 (⟨"com/example/bridge/bridge/MultisetsFitsPinLaw", "avail", "(IIIIII)I"⟩ : MethodName) method_4_code 6 (some .int) [] ({ frames := 0, cells := 0, slots := 0, locals := 0 } : Room) #[(.int v), (.int n), (.int c0), (.int c1), (.int c2), (.int c3)] ds (fun w ds' => w = some (.int (own_avl v n c0 c1 c2 c3)) ∧ ds' = ds) := by
  refine Ct.of_go (Ls := #[.val (.int v), .val (.int n), .val (.int c0), .val (.int c1), .val (.int c2), .val (.int c3)]) pf_3 (fun m => by first | (simp [entryFrame, mkF, argsToLocals, Value.category, maxLocals]; done) | rfl) (fun W K => ?_)
  generalize hQ : (fun w ds' => w = some (.int (own_avl v n c0 c1 c2 c3)) ∧ ds' = ds : Option Value → Hp → Prop) = Q
  refine go_iloadN (pc' := 1) K d3_0 rfl rfl ?_
  refine go_iloadN (pc' := 2) K d3_1 rfl rfl ?_
  refine go_ic_lt (pt := 7) (pc' := 5) K d3_2 (by decide) (by decide) rfl (fun (h0 : v.toInt < n.toInt) => ?_) (fun (h0 : n.toInt ≤ v.toInt) => ?_)
  ·
    refine go_iloadN (pc' := 8) K d3_7 rfl rfl ?_
    refine go_if_ne (pt := 13) (pc' := 11) K d3_8 (by decide) (by decide) rfl (fun (h1 : v ≠ 0) => ?_) (fun (h1 : v = 0) => ?_)
    ·
      refine go_iloadN (pc' := 14) K d3_13 rfl rfl ?_
      refine go_iconst (pc' := 15) (v := 1) K d3_14 rfl rfl ?_
      refine go_ic_ne (pt := 20) (pc' := 18) K d3_15 (by decide) (by decide) rfl (fun (h2 : v ≠ 1) => ?_) (fun (h2 : v = 1) => ?_)
      ·
        refine go_iloadN (pc' := 21) K d3_20 rfl rfl ?_
        refine go_iconst (pc' := 22) (v := 2) K d3_21 rfl rfl ?_
        refine go_ic_ne (pt := 28) (pc' := 25) K d3_22 (by decide) (by decide) rfl (fun (h3 : v ≠ 2) => ?_) (fun (h3 : v = 2) => ?_)
        ·
          refine go_iload (pc' := 30) K d3_28 rfl rfl ?_
          exact go_iret K d3_30 (by decide) (by decide) (by subst hQ; refine ⟨?_, rfl⟩; unfold own_avl; rw [if_pos h0, if_neg h1, if_neg h2, if_neg h3])
        ·
          refine go_iload (pc' := 27) K d3_25 rfl rfl ?_
          exact go_iret K d3_27 (by decide) (by decide) (by subst hQ; refine ⟨?_, rfl⟩; unfold own_avl; rw [if_pos h0, if_neg h1, if_neg h2, if_pos h3])
      ·
        refine go_iloadN (pc' := 19) K d3_18 rfl rfl ?_
        exact go_iret K d3_19 (by decide) (by decide) (by subst hQ; refine ⟨?_, rfl⟩; unfold own_avl; rw [if_pos h0, if_neg h1, if_pos h2])
    ·
      refine go_iloadN (pc' := 12) K d3_11 rfl rfl ?_
      exact go_iret K d3_12 (by decide) (by decide) (by subst hQ; refine ⟨?_, rfl⟩; unfold own_avl; rw [if_pos h0, if_pos h1])
  ·
    refine go_iconst (pc' := 6) (v := 0) K d3_5 rfl rfl ?_
    exact go_iret K d3_6 (by decide) (by decide) (by subst hQ; refine ⟨?_, rfl⟩; unfold own_avl; rw [if_neg (Int.not_lt.mpr h0)])
theorem own_avk0 (c0 c1 c2 c3 : Int32) : ∀ v : Int32, 0 ≤ v.toInt → own_avl v 0 c0 c1 c2 c3 = own_av [] v := by
  intro v hv
  by_cases h : v.toInt < 0
  · rcases ilt5 hv (by omega) with rfl | rfl | rfl | rfl | rfl <;> first | exact absurd h (by decide) | rfl
  · have e1 : own_avl v 0 c0 c1 c2 c3 = 0 := if_neg h
    have e2 : own_av [] v = 0 := if_neg h
    rw [e1, e2]
theorem own_avk1 (c0 c1 c2 c3 : Int32) : ∀ v : Int32, 0 ≤ v.toInt → own_avl v 1 c0 c1 c2 c3 = own_av [c0] v := by
  intro v hv
  by_cases h : v.toInt < 1
  · rcases ilt5 hv (by omega) with rfl | rfl | rfl | rfl | rfl <;> first | exact absurd h (by decide) | rfl
  · have e1 : own_avl v 1 c0 c1 c2 c3 = 0 := if_neg h
    have e2 : own_av [c0] v = 0 := if_neg h
    rw [e1, e2]
theorem own_avk2 (c0 c1 c2 c3 : Int32) : ∀ v : Int32, 0 ≤ v.toInt → own_avl v 2 c0 c1 c2 c3 = own_av [c0, c1] v := by
  intro v hv
  by_cases h : v.toInt < 2
  · rcases ilt5 hv (by omega) with rfl | rfl | rfl | rfl | rfl <;> first | exact absurd h (by decide) | rfl
  · have e1 : own_avl v 2 c0 c1 c2 c3 = 0 := if_neg h
    have e2 : own_av [c0, c1] v = 0 := if_neg h
    rw [e1, e2]
theorem own_avk3 (c0 c1 c2 c3 : Int32) : ∀ v : Int32, 0 ≤ v.toInt → own_avl v 3 c0 c1 c2 c3 = own_av [c0, c1, c2] v := by
  intro v hv
  by_cases h : v.toInt < 3
  · rcases ilt5 hv (by omega) with rfl | rfl | rfl | rfl | rfl <;> first | exact absurd h (by decide) | rfl
  · have e1 : own_avl v 3 c0 c1 c2 c3 = 0 := if_neg h
    have e2 : own_av [c0, c1, c2] v = 0 := if_neg h
    rw [e1, e2]
theorem own_avk4 (c0 c1 c2 c3 : Int32) : ∀ v : Int32, 0 ≤ v.toInt → own_avl v 4 c0 c1 c2 c3 = own_av [c0, c1, c2, c3] v := by
  intro v hv
  by_cases h : v.toInt < 4
  · rcases ilt5 hv (by omega) with rfl | rfl | rfl | rfl | rfl <;> first | exact absurd h (by decide) | rfl
  · have e1 : own_avl v 4 c0 c1 c2 c3 = 0 := if_neg h
    have e2 : own_av [c0, c1, c2, c3] v = 0 := if_neg h
    rw [e1, e2]
theorem own_m3 (x : Int32) : 0 ≤ (x &&& 3).toInt ∧ (x &&& 3).toInt < 4 := by
  have e : (x &&& 3).toInt = x.toInt % 2 ^ 2 := Jvm.Kit.i32_mask x 3 (k := 2) (by decide) (by decide)
  omega
theorem own_m30 (x : Int32) : 0 ≤ (x &&& 1073741823).toInt ∧ (x &&& 1073741823).toInt < 1073741824 := by
  have e : (x &&& 1073741823).toInt = x.toInt % 2 ^ 30 := Jvm.Kit.i32_mask x 1073741823 (k := 30) (by decide) (by decide)
  omega
theorem own_r5 (x : Int32) : (x &&& 7) % 5 = 0 ∨ (x &&& 7) % 5 = 1 ∨ (x &&& 7) % 5 = 2 ∨ (x &&& 7) % 5 = 3 ∨ (x &&& 7) % 5 = 4 := by
  have e : (x &&& 7).toInt = x.toInt % 2 ^ 3 := Jvm.Kit.i32_mask x 7 (k := 3) (by decide) (by decide)
  have e2 : ((x &&& 7) % 5).toInt = (x &&& 7).toInt % 5 := Jvm.Kit.i32_rem_nonneg (by omega)
  exact ilt5 (by omega) (by omega)
theorem own_sd {x d e : Int32} (h : x + d = e) (hd : 0 ≤ d.toInt ∧ d.toInt < 4) (hx : 0 ≤ x.toInt ∧ x.toInt < 2000000000) : x.toInt ≤ e.toInt ∧ e.toInt ≤ x.toInt + 3 := by
  rw [← h, iadd_eq (by omega) (by omega)]; omega
set_option maxRecDepth 65536 in
set_option maxHeartbeats 40000000 in
theorem law_ct (l : Launch) (Z : State) (h0 : Heap) (a0 : Array Value) (hw : ∀ d ∈ tables_1, d.before a0 Z = true) (p0 p1 p2 p3 p4 p5 : Int32) :
    Ct l Z h0 x code maxLocals ret tables_1 room_1 #[(.int p0), (.int p1), (.int p2), (.int p3), (.int p4), (.int p5)] [] (fun v _ => v = some (.int 1)) := by
  refine Ct.of_go (Ls := #[.val (.int p0), .val (.int p1), .val (.int p2), .val (.int p3), .val (.int p4), .val (.int p5), .unset, .unset, .unset, .unset, .unset, .unset, .unset, .unset, .unset, .unset, .unset, .unset, .unset, .unset]) pf_0 (fun m => by first | (simp [entryFrame, mkF, argsToLocals, Value.category, maxLocals]; done) | rfl) (fun W K => ?_)
  generalize hQ : (fun v _ => v = some (.int 1) : Option Value → Hp → Prop) = Q
  refine go_iloadN (pc' := 1) K at_0 rfl rfl ?_
  refine go_iconst (pc' := 2) (v := 3) K at_1 rfl rfl ?_
  refine go_iand (pc' := 3) K at_2 rfl ?_
  generalize hlen : (p0 &&& 3) = len
  refine go_istore (pc' := 5) (Ls' := #[.val (.int p0), .val (.int p1), .val (.int p2), .val (.int p3), .val (.int p4), .val (.int p5), .val (.int len), .unset, .unset, .unset, .unset, .unset, .unset, .unset, .unset, .unset, .unset, .unset, .unset, .unset]) K at_3 rfl rfl ?_
  have hl4 : len = 0 ∨ len = 1 ∨ len = 2 ∨ len = 3 := by
    have h := own_m3 p0
    rw [hlen] at h
    exact ilt4 h.1 h.2
  refine go_iloadN (pc' := 6) K at_5 rfl rfl ?_
  refine go_iconst (pc' := 7) (v := 2) K at_6 rfl rfl ?_
  refine go_iushr (pc' := 8) K at_7 rfl ?_
  refine go_iconst (pc' := 9) (v := 3) K at_8 rfl rfl ?_
  refine go_iand (pc' := 10) K at_9 rfl ?_
  generalize hd1 : ((XT.ushr p0 2) &&& 3) = d1
  refine go_istore (pc' := 12) (Ls' := #[.val (.int p0), .val (.int p1), .val (.int p2), .val (.int p3), .val (.int p4), .val (.int p5), .val (.int len), .val (.int d1), .unset, .unset, .unset, .unset, .unset, .unset, .unset, .unset, .unset, .unset, .unset, .unset]) K at_10 rfl rfl ?_
  refine go_iloadN (pc' := 13) K at_12 rfl rfl ?_
  refine go_iconst (pc' := 14) (v := 4) K at_13 rfl rfl ?_
  refine go_iushr (pc' := 15) K at_14 rfl ?_
  refine go_iconst (pc' := 16) (v := 3) K at_15 rfl rfl ?_
  refine go_iand (pc' := 17) K at_16 rfl ?_
  generalize hd2 : ((XT.ushr p0 4) &&& 3) = d2
  refine go_istore (pc' := 19) (Ls' := #[.val (.int p0), .val (.int p1), .val (.int p2), .val (.int p3), .val (.int p4), .val (.int p5), .val (.int len), .val (.int d1), .val (.int d2), .unset, .unset, .unset, .unset, .unset, .unset, .unset, .unset, .unset, .unset, .unset]) K at_17 rfl rfl ?_
  refine go_iloadN (pc' := 20) K at_19 rfl rfl ?_
  refine go_bipush (pc' := 22) (v := 6) K at_20 (by decide) rfl ?_
  refine go_iushr (pc' := 23) K at_22 rfl ?_
  refine go_bipush (pc' := 25) (v := 7) K at_23 (by decide) rfl ?_
  refine go_iand (pc' := 26) K at_25 rfl ?_
  refine go_iconst (pc' := 27) (v := 5) K at_26 rfl rfl ?_
  refine go_irem (pc' := 28) K at_27 (by decide) rfl ?_
  generalize hal0 : (((XT.ushr p0 6) &&& 7) % 5) = al0
  refine go_istore (pc' := 30) (Ls' := #[.val (.int p0), .val (.int p1), .val (.int p2), .val (.int p3), .val (.int p4), .val (.int p5), .val (.int len), .val (.int d1), .val (.int d2), .val (.int al0), .unset, .unset, .unset, .unset, .unset, .unset, .unset, .unset, .unset, .unset]) K at_28 rfl rfl ?_
  have ha5 := own_r5 (XT.ushr p0 6)
  rw [hal0] at ha5
  have J61 : ∀ m0 bg : Int32, (0 ≤ m0.toInt ∧ m0.toInt < 1073741824) → Go W Q [] 0 0 61 #[.val (.int p0), .val (.int p1), .val (.int p2), .val (.int p3), .val (.int p4), .val (.int p5), .val (.int len), .val (.int d1), .val (.int d2), .val (.int al0), .val (.int bg), .unset, .unset, .unset, .unset, .unset, .unset, .unset, .unset, .unset] [(.int m0)] := by
    intro m0 bg hm0
    refine go_istore (pc' := 63) (Ls' := #[.val (.int p0), .val (.int p1), .val (.int p2), .val (.int p3), .val (.int p4), .val (.int p5), .val (.int len), .val (.int d1), .val (.int d2), .val (.int al0), .val (.int bg), .val (.int m0), .unset, .unset, .unset, .unset, .unset, .unset, .unset, .unset]) K at_61 rfl rfl ?_
    refine go_iload (pc' := 65) K at_63 rfl rfl ?_
    refine go_iload (pc' := 67) K at_65 rfl rfl ?_
    refine go_iadd (pc' := 68) K at_67 rfl ?_
    generalize hm1 : (m0 + d1) = m1
    refine go_istore (pc' := 70) (Ls' := #[.val (.int p0), .val (.int p1), .val (.int p2), .val (.int p3), .val (.int p4), .val (.int p5), .val (.int len), .val (.int d1), .val (.int d2), .val (.int al0), .val (.int bg), .val (.int m0), .val (.int m1), .unset, .unset, .unset, .unset, .unset, .unset, .unset]) K at_68 rfl rfl ?_
    have hm1x := own_sd hm1 (by rw [← hd1]; exact own_m3 _) (by omega)
    refine go_iload (pc' := 72) K at_70 rfl rfl ?_
    refine go_iload (pc' := 74) K at_72 rfl rfl ?_
    refine go_iadd (pc' := 75) K at_74 rfl ?_
    generalize hm2 : (m1 + d2) = m2
    refine go_istore (pc' := 77) (Ls' := #[.val (.int p0), .val (.int p1), .val (.int p2), .val (.int p3), .val (.int p4), .val (.int p5), .val (.int len), .val (.int d1), .val (.int d2), .val (.int al0), .val (.int bg), .val (.int m0), .val (.int m1), .val (.int m2), .unset, .unset, .unset, .unset, .unset, .unset]) K at_75 rfl rfl ?_
    have hm2x := own_sd hm2 (by rw [← hd2]; exact own_m3 _) (by omega)
    rcases hl4 with rfl | rfl | rfl | rfl
    ·
      refine go_iload (pc' := 79) K at_77 rfl rfl ?_
      refine go_newI (pc' := 81) (m := 0) (cap := 0) K (hw _ (List.mem_of_getElem? (i := 0) rfl)) at_79 (by decide) (by decide) (by decide) (by decide) (by decide) rfl (fun b hgb hlb => ?_)
      show Go W Q [(b, ia [])] 1 0 81 #[.val (.int p0), .val (.int p1), .val (.int p2), .val (.int p3), .val (.int p4), .val (.int p5), .val (.int 0), .val (.int d1), .val (.int d2), .val (.int al0), .val (.int bg), .val (.int m0), .val (.int m1), .val (.int m2), .unset, .unset, .unset, .unset, .unset, .unset] [(.ref b)]
      refine go_astore (pc' := 83) (Ls' := #[.val (.int p0), .val (.int p1), .val (.int p2), .val (.int p3), .val (.int p4), .val (.int p5), .val (.int 0), .val (.int d1), .val (.int d2), .val (.int al0), .val (.int bg), .val (.int m0), .val (.int m1), .val (.int m2), .val (.ref b), .unset, .unset, .unset, .unset, .unset]) K at_81 rfl rfl rfl ?_
      refine go_iload (pc' := 85) K at_83 rfl rfl ?_
      refine go_if_le_t (pc' := 94) K at_85 (by decide) (by decide) (by decide) ?_
      refine go_iload (pc' := 96) K at_94 rfl rfl ?_
      refine go_iconst (pc' := 97) (v := 1) K at_96 rfl rfl ?_
      refine go_ic_le_t (pc' := 106) K at_97 (by decide) (by decide) (by decide) ?_
      refine go_iload (pc' := 108) K at_106 rfl rfl ?_
      refine go_iconst (pc' := 109) (v := 2) K at_108 rfl rfl ?_
      refine go_ic_le_t (pc' := 118) K at_109 (by decide) (by decide) (by decide) ?_
      have J169 : ∀ (c : Nat) (ys : List Int32) (al : Int32), ys.length ≤ 4 → (∀ v : Int32, 0 ≤ v.toInt → own_avl v al p2 p3 p4 p5 = own_av ys v) → Go W Q [(b, ia []), (c, ia ys)] 2 4 169 #[.val (.int p0), .val (.int p1), .val (.int p2), .val (.int p3), .val (.int p4), .val (.int p5), .val (.int 0), .val (.int d1), .val (.int d2), .val (.int al), .val (.int bg), .val (.int m0), .val (.int m1), .val (.int m2), .val (.ref b), .val (.ref c), .unset, .unset, .unset, .unset] [] := by
        intro c ys al hy4 hys
        refine go_iload (pc' := 171) K at_169 rfl rfl ?_
        refine go_iconst (pc' := 172) (v := 1) K at_171 rfl rfl ?_
        refine go_ic_lt_t (pc' := 204) K at_172 (by decide) (by decide) (by decide) ?_
        refine go_iconst (pc' := 205) (v := 1) K at_204 rfl rfl ?_
        refine go_goto (pc' := 209) K at_205 (by decide) (by decide) ?_
        refine go_istore (pc' := 211) (Ls' := #[.val (.int p0), .val (.int p1), .val (.int p2), .val (.int p3), .val (.int p4), .val (.int p5), .val (.int 0), .val (.int d1), .val (.int d2), .val (.int al), .val (.int bg), .val (.int m0), .val (.int m1), .val (.int m2), .val (.ref b), .val (.ref c), .val (.int 1), .unset, .unset, .unset]) K at_209 rfl rfl ?_
        refine go_iload (pc' := 213) K at_211 rfl rfl ?_
        refine go_iconst (pc' := 214) (v := 2) K at_213 rfl rfl ?_
        refine go_ic_lt_t (pc' := 246) K at_214 (by decide) (by decide) (by decide) ?_
        refine go_iconst (pc' := 247) (v := 1) K at_246 rfl rfl ?_
        refine go_goto (pc' := 251) K at_247 (by decide) (by decide) ?_
        refine go_istore (pc' := 253) (Ls' := #[.val (.int p0), .val (.int p1), .val (.int p2), .val (.int p3), .val (.int p4), .val (.int p5), .val (.int 0), .val (.int d1), .val (.int d2), .val (.int al), .val (.int bg), .val (.int m0), .val (.int m1), .val (.int m2), .val (.ref b), .val (.ref c), .val (.int 1), .val (.int 1), .unset, .unset]) K at_251 rfl rfl ?_
        refine go_iload (pc' := 255) K at_253 rfl rfl ?_
        refine go_iconst (pc' := 256) (v := 3) K at_255 rfl rfl ?_
        refine go_ic_lt_t (pc' := 288) K at_256 (by decide) (by decide) (by decide) ?_
        refine go_iconst (pc' := 289) (v := 1) K at_288 rfl rfl ?_
        refine go_goto (pc' := 293) K at_289 (by decide) (by decide) ?_
        refine go_istore (pc' := 295) (Ls' := #[.val (.int p0), .val (.int p1), .val (.int p2), .val (.int p3), .val (.int p4), .val (.int p5), .val (.int 0), .val (.int d1), .val (.int d2), .val (.int al), .val (.int bg), .val (.int m0), .val (.int m1), .val (.int m2), .val (.ref b), .val (.ref c), .val (.int 1), .val (.int 1), .val (.int 1), .unset]) K at_293 rfl rfl ?_
        refine go_iload (pc' := 297) K at_295 rfl rfl ?_
        refine go_if_eq_f (pc' := 300) K at_297 (by decide) rfl ?_
        refine go_iload (pc' := 302) K at_300 rfl rfl ?_
        refine go_if_eq_f (pc' := 305) K at_302 (by decide) rfl ?_
        refine go_iload (pc' := 307) K at_305 rfl rfl ?_
        refine go_if_eq_f (pc' := 310) K at_307 (by decide) rfl ?_
        refine go_iconst (pc' := 311) (v := 1) K at_310 rfl rfl ?_
        refine go_goto (pc' := 315) K at_311 (by decide) (by decide) ?_
        refine go_istore (pc' := 317) (Ls' := #[.val (.int p0), .val (.int p1), .val (.int p2), .val (.int p3), .val (.int p4), .val (.int p5), .val (.int 0), .val (.int d1), .val (.int d2), .val (.int al), .val (.int bg), .val (.int m0), .val (.int m1), .val (.int m2), .val (.ref b), .val (.ref c), .val (.int 1), .val (.int 1), .val (.int 1), .val (.int 1)]) K at_315 rfl rfl ?_
        refine go_aload (pc' := 319) K at_317 rfl rfl rfl ?_
        refine go_aload (pc' := 321) K at_319 rfl rfl rfl ?_
        refine go_static (pc' := 324) (Wd := 0) (y' := ⟨"com/example/bridge/bridge/Multisets", "fits", "([I[I)Z"⟩) (argsL := [(.ref b), (.ref c)]) (rest := []) K (hw _ (List.mem_of_getElem? (i := 1) rfl)) (hw _ (List.mem_of_getElem? (i := 2) rfl)) (hw _ (List.mem_of_getElem? (i := 3) rfl)) (hw _ (List.mem_of_getElem? (i := 4) rfl)) at_321 (ct_fits0 l Z h0 a0 hw _ 0 1 b c  ys rfl rfl hy4) (lenOf pd___I_I_Z rfl) rfl rfl (by decide) rfl (by decide) (by decide) (by decide) (by decide) rfl ?_
        rintro _ ds' ⟨rfl, hds⟩
        rw [hds]
        show Go W Q [(b, ia []), (c, ia ys)] 2 4 324 #[.val (.int p0), .val (.int p1), .val (.int p2), .val (.int p3), .val (.int p4), .val (.int p5), .val (.int 0), .val (.int d1), .val (.int d2), .val (.int al), .val (.int bg), .val (.int m0), .val (.int m1), .val (.int m2), .val (.ref b), .val (.ref c), .val (.int 1), .val (.int 1), .val (.int 1), .val (.int 1)] [(.int (own_fit [] ys))]
        refine go_iload (pc' := 326) K at_324 rfl rfl ?_
        refine go_ic_ne_f (pc' := 329) K at_326 (own_fit_t (by simp)) rfl ?_
        refine go_iconst (pc' := 330) (v := 1) K at_329 rfl rfl ?_
        refine go_goto (pc' := 334) K at_330 (by decide) (by decide) ?_
        exact go_zret K at_334 (by decide) (by decide) (Or.inr rfl) (by subst hQ; rfl)
      rcases ha5 with rfl | rfl | rfl | rfl | rfl
      ·
        refine go_iload (pc' := 120) K at_118 rfl rfl ?_
        refine go_newI (pc' := 122) (m := 0) (cap := 4) K (hw _ (List.mem_of_getElem? (i := 0) rfl)) at_120 (by decide) (by decide) (by decide) (by decide) (by decide) rfl (fun c hgc hlc => ?_)
        show Go W Q [(b, ia []), (c, ia [])] 2 4 122 #[.val (.int p0), .val (.int p1), .val (.int p2), .val (.int p3), .val (.int p4), .val (.int p5), .val (.int 0), .val (.int d1), .val (.int d2), .val (.int 0), .val (.int bg), .val (.int m0), .val (.int m1), .val (.int m2), .val (.ref b), .unset, .unset, .unset, .unset, .unset] [(.ref c)]
        refine go_astore (pc' := 124) (Ls' := #[.val (.int p0), .val (.int p1), .val (.int p2), .val (.int p3), .val (.int p4), .val (.int p5), .val (.int 0), .val (.int d1), .val (.int d2), .val (.int 0), .val (.int bg), .val (.int m0), .val (.int m1), .val (.int m2), .val (.ref b), .val (.ref c), .unset, .unset, .unset, .unset]) K at_122 rfl rfl rfl ?_
        refine go_iload (pc' := 126) K at_124 rfl rfl ?_
        refine go_if_le_t (pc' := 134) K at_126 (by decide) (by decide) (by decide) ?_
        refine go_iload (pc' := 136) K at_134 rfl rfl ?_
        refine go_iconst (pc' := 137) (v := 1) K at_136 rfl rfl ?_
        refine go_ic_le_t (pc' := 145) K at_137 (by decide) (by decide) (by decide) ?_
        refine go_iload (pc' := 147) K at_145 rfl rfl ?_
        refine go_iconst (pc' := 148) (v := 2) K at_147 rfl rfl ?_
        refine go_ic_le_t (pc' := 157) K at_148 (by decide) (by decide) (by decide) ?_
        refine go_iload (pc' := 159) K at_157 rfl rfl ?_
        refine go_iconst (pc' := 160) (v := 3) K at_159 rfl rfl ?_
        refine go_ic_le_t (pc' := 169) K at_160 (by decide) (by decide) (by decide) ?_
        exact J169 c _ _ (by simp) (own_avk0 p2 p3 p4 p5)
      ·
        refine go_iload (pc' := 120) K at_118 rfl rfl ?_
        refine go_newI (pc' := 122) (m := 1) (cap := 4) K (hw _ (List.mem_of_getElem? (i := 0) rfl)) at_120 (by decide) (by decide) (by decide) (by decide) (by decide) rfl (fun c hgc hlc => ?_)
        show Go W Q [(b, ia []), (c, ia [0])] 2 4 122 #[.val (.int p0), .val (.int p1), .val (.int p2), .val (.int p3), .val (.int p4), .val (.int p5), .val (.int 0), .val (.int d1), .val (.int d2), .val (.int 1), .val (.int bg), .val (.int m0), .val (.int m1), .val (.int m2), .val (.ref b), .unset, .unset, .unset, .unset, .unset] [(.ref c)]
        refine go_astore (pc' := 124) (Ls' := #[.val (.int p0), .val (.int p1), .val (.int p2), .val (.int p3), .val (.int p4), .val (.int p5), .val (.int 0), .val (.int d1), .val (.int d2), .val (.int 1), .val (.int bg), .val (.int m0), .val (.int m1), .val (.int m2), .val (.ref b), .val (.ref c), .unset, .unset, .unset, .unset]) K at_122 rfl rfl rfl ?_
        refine go_iload (pc' := 126) K at_124 rfl rfl ?_
        refine go_if_le_f (pc' := 129) K at_126 (by decide) rfl ?_
        refine go_aload (pc' := 131) K at_129 rfl rfl rfl ?_
        refine go_iconst (pc' := 132) (v := 0) K at_131 rfl rfl ?_
        refine go_iloadN (pc' := 133) K at_132 rfl rfl ?_
        refine go_iastore (pc' := 134) (i := 1) (m := 0) (ds' := [(b, ia []), (c, ia [p2])]) K rfl at_133 (by decide) (by simp) rfl rfl ?_
        refine go_iload (pc' := 136) K at_134 rfl rfl ?_
        refine go_iconst (pc' := 137) (v := 1) K at_136 rfl rfl ?_
        refine go_ic_le_t (pc' := 145) K at_137 (by decide) (by decide) (by decide) ?_
        refine go_iload (pc' := 147) K at_145 rfl rfl ?_
        refine go_iconst (pc' := 148) (v := 2) K at_147 rfl rfl ?_
        refine go_ic_le_t (pc' := 157) K at_148 (by decide) (by decide) (by decide) ?_
        refine go_iload (pc' := 159) K at_157 rfl rfl ?_
        refine go_iconst (pc' := 160) (v := 3) K at_159 rfl rfl ?_
        refine go_ic_le_t (pc' := 169) K at_160 (by decide) (by decide) (by decide) ?_
        exact J169 c _ _ (by simp) (own_avk1 p2 p3 p4 p5)
      ·
        refine go_iload (pc' := 120) K at_118 rfl rfl ?_
        refine go_newI (pc' := 122) (m := 2) (cap := 4) K (hw _ (List.mem_of_getElem? (i := 0) rfl)) at_120 (by decide) (by decide) (by decide) (by decide) (by decide) rfl (fun c hgc hlc => ?_)
        show Go W Q [(b, ia []), (c, ia [0, 0])] 2 4 122 #[.val (.int p0), .val (.int p1), .val (.int p2), .val (.int p3), .val (.int p4), .val (.int p5), .val (.int 0), .val (.int d1), .val (.int d2), .val (.int 2), .val (.int bg), .val (.int m0), .val (.int m1), .val (.int m2), .val (.ref b), .unset, .unset, .unset, .unset, .unset] [(.ref c)]
        refine go_astore (pc' := 124) (Ls' := #[.val (.int p0), .val (.int p1), .val (.int p2), .val (.int p3), .val (.int p4), .val (.int p5), .val (.int 0), .val (.int d1), .val (.int d2), .val (.int 2), .val (.int bg), .val (.int m0), .val (.int m1), .val (.int m2), .val (.ref b), .val (.ref c), .unset, .unset, .unset, .unset]) K at_122 rfl rfl rfl ?_
        refine go_iload (pc' := 126) K at_124 rfl rfl ?_
        refine go_if_le_f (pc' := 129) K at_126 (by decide) rfl ?_
        refine go_aload (pc' := 131) K at_129 rfl rfl rfl ?_
        refine go_iconst (pc' := 132) (v := 0) K at_131 rfl rfl ?_
        refine go_iloadN (pc' := 133) K at_132 rfl rfl ?_
        refine go_iastore (pc' := 134) (i := 1) (m := 0) (ds' := [(b, ia []), (c, ia [p2, 0])]) K rfl at_133 (by decide) (by simp) rfl rfl ?_
        refine go_iload (pc' := 136) K at_134 rfl rfl ?_
        refine go_iconst (pc' := 137) (v := 1) K at_136 rfl rfl ?_
        refine go_ic_le_f (pc' := 140) K at_137 (by decide) rfl ?_
        refine go_aload (pc' := 142) K at_140 rfl rfl rfl ?_
        refine go_iconst (pc' := 143) (v := 1) K at_142 rfl rfl ?_
        refine go_iloadN (pc' := 144) K at_143 rfl rfl ?_
        refine go_iastore (pc' := 145) (i := 1) (m := 1) (ds' := [(b, ia []), (c, ia [p2, p3])]) K rfl at_144 (by decide) (by simp) rfl rfl ?_
        refine go_iload (pc' := 147) K at_145 rfl rfl ?_
        refine go_iconst (pc' := 148) (v := 2) K at_147 rfl rfl ?_
        refine go_ic_le_t (pc' := 157) K at_148 (by decide) (by decide) (by decide) ?_
        refine go_iload (pc' := 159) K at_157 rfl rfl ?_
        refine go_iconst (pc' := 160) (v := 3) K at_159 rfl rfl ?_
        refine go_ic_le_t (pc' := 169) K at_160 (by decide) (by decide) (by decide) ?_
        exact J169 c _ _ (by simp) (own_avk2 p2 p3 p4 p5)
      ·
        refine go_iload (pc' := 120) K at_118 rfl rfl ?_
        refine go_newI (pc' := 122) (m := 3) (cap := 4) K (hw _ (List.mem_of_getElem? (i := 0) rfl)) at_120 (by decide) (by decide) (by decide) (by decide) (by decide) rfl (fun c hgc hlc => ?_)
        show Go W Q [(b, ia []), (c, ia [0, 0, 0])] 2 4 122 #[.val (.int p0), .val (.int p1), .val (.int p2), .val (.int p3), .val (.int p4), .val (.int p5), .val (.int 0), .val (.int d1), .val (.int d2), .val (.int 3), .val (.int bg), .val (.int m0), .val (.int m1), .val (.int m2), .val (.ref b), .unset, .unset, .unset, .unset, .unset] [(.ref c)]
        refine go_astore (pc' := 124) (Ls' := #[.val (.int p0), .val (.int p1), .val (.int p2), .val (.int p3), .val (.int p4), .val (.int p5), .val (.int 0), .val (.int d1), .val (.int d2), .val (.int 3), .val (.int bg), .val (.int m0), .val (.int m1), .val (.int m2), .val (.ref b), .val (.ref c), .unset, .unset, .unset, .unset]) K at_122 rfl rfl rfl ?_
        refine go_iload (pc' := 126) K at_124 rfl rfl ?_
        refine go_if_le_f (pc' := 129) K at_126 (by decide) rfl ?_
        refine go_aload (pc' := 131) K at_129 rfl rfl rfl ?_
        refine go_iconst (pc' := 132) (v := 0) K at_131 rfl rfl ?_
        refine go_iloadN (pc' := 133) K at_132 rfl rfl ?_
        refine go_iastore (pc' := 134) (i := 1) (m := 0) (ds' := [(b, ia []), (c, ia [p2, 0, 0])]) K rfl at_133 (by decide) (by simp) rfl rfl ?_
        refine go_iload (pc' := 136) K at_134 rfl rfl ?_
        refine go_iconst (pc' := 137) (v := 1) K at_136 rfl rfl ?_
        refine go_ic_le_f (pc' := 140) K at_137 (by decide) rfl ?_
        refine go_aload (pc' := 142) K at_140 rfl rfl rfl ?_
        refine go_iconst (pc' := 143) (v := 1) K at_142 rfl rfl ?_
        refine go_iloadN (pc' := 144) K at_143 rfl rfl ?_
        refine go_iastore (pc' := 145) (i := 1) (m := 1) (ds' := [(b, ia []), (c, ia [p2, p3, 0])]) K rfl at_144 (by decide) (by simp) rfl rfl ?_
        refine go_iload (pc' := 147) K at_145 rfl rfl ?_
        refine go_iconst (pc' := 148) (v := 2) K at_147 rfl rfl ?_
        refine go_ic_le_f (pc' := 151) K at_148 (by decide) rfl ?_
        refine go_aload (pc' := 153) K at_151 rfl rfl rfl ?_
        refine go_iconst (pc' := 154) (v := 2) K at_153 rfl rfl ?_
        refine go_iload (pc' := 156) K at_154 rfl rfl ?_
        refine go_iastore (pc' := 157) (i := 1) (m := 2) (ds' := [(b, ia []), (c, ia [p2, p3, p4])]) K rfl at_156 (by decide) (by simp) rfl rfl ?_
        refine go_iload (pc' := 159) K at_157 rfl rfl ?_
        refine go_iconst (pc' := 160) (v := 3) K at_159 rfl rfl ?_
        refine go_ic_le_t (pc' := 169) K at_160 (by decide) (by decide) (by decide) ?_
        exact J169 c _ _ (by simp) (own_avk3 p2 p3 p4 p5)
      ·
        refine go_iload (pc' := 120) K at_118 rfl rfl ?_
        refine go_newI (pc' := 122) (m := 4) (cap := 4) K (hw _ (List.mem_of_getElem? (i := 0) rfl)) at_120 (by decide) (by decide) (by decide) (by decide) (by decide) rfl (fun c hgc hlc => ?_)
        show Go W Q [(b, ia []), (c, ia [0, 0, 0, 0])] 2 4 122 #[.val (.int p0), .val (.int p1), .val (.int p2), .val (.int p3), .val (.int p4), .val (.int p5), .val (.int 0), .val (.int d1), .val (.int d2), .val (.int 4), .val (.int bg), .val (.int m0), .val (.int m1), .val (.int m2), .val (.ref b), .unset, .unset, .unset, .unset, .unset] [(.ref c)]
        refine go_astore (pc' := 124) (Ls' := #[.val (.int p0), .val (.int p1), .val (.int p2), .val (.int p3), .val (.int p4), .val (.int p5), .val (.int 0), .val (.int d1), .val (.int d2), .val (.int 4), .val (.int bg), .val (.int m0), .val (.int m1), .val (.int m2), .val (.ref b), .val (.ref c), .unset, .unset, .unset, .unset]) K at_122 rfl rfl rfl ?_
        refine go_iload (pc' := 126) K at_124 rfl rfl ?_
        refine go_if_le_f (pc' := 129) K at_126 (by decide) rfl ?_
        refine go_aload (pc' := 131) K at_129 rfl rfl rfl ?_
        refine go_iconst (pc' := 132) (v := 0) K at_131 rfl rfl ?_
        refine go_iloadN (pc' := 133) K at_132 rfl rfl ?_
        refine go_iastore (pc' := 134) (i := 1) (m := 0) (ds' := [(b, ia []), (c, ia [p2, 0, 0, 0])]) K rfl at_133 (by decide) (by simp) rfl rfl ?_
        refine go_iload (pc' := 136) K at_134 rfl rfl ?_
        refine go_iconst (pc' := 137) (v := 1) K at_136 rfl rfl ?_
        refine go_ic_le_f (pc' := 140) K at_137 (by decide) rfl ?_
        refine go_aload (pc' := 142) K at_140 rfl rfl rfl ?_
        refine go_iconst (pc' := 143) (v := 1) K at_142 rfl rfl ?_
        refine go_iloadN (pc' := 144) K at_143 rfl rfl ?_
        refine go_iastore (pc' := 145) (i := 1) (m := 1) (ds' := [(b, ia []), (c, ia [p2, p3, 0, 0])]) K rfl at_144 (by decide) (by simp) rfl rfl ?_
        refine go_iload (pc' := 147) K at_145 rfl rfl ?_
        refine go_iconst (pc' := 148) (v := 2) K at_147 rfl rfl ?_
        refine go_ic_le_f (pc' := 151) K at_148 (by decide) rfl ?_
        refine go_aload (pc' := 153) K at_151 rfl rfl rfl ?_
        refine go_iconst (pc' := 154) (v := 2) K at_153 rfl rfl ?_
        refine go_iload (pc' := 156) K at_154 rfl rfl ?_
        refine go_iastore (pc' := 157) (i := 1) (m := 2) (ds' := [(b, ia []), (c, ia [p2, p3, p4, 0])]) K rfl at_156 (by decide) (by simp) rfl rfl ?_
        refine go_iload (pc' := 159) K at_157 rfl rfl ?_
        refine go_iconst (pc' := 160) (v := 3) K at_159 rfl rfl ?_
        refine go_ic_le_f (pc' := 163) K at_160 (by decide) rfl ?_
        refine go_aload (pc' := 165) K at_163 rfl rfl rfl ?_
        refine go_iconst (pc' := 166) (v := 3) K at_165 rfl rfl ?_
        refine go_iload (pc' := 168) K at_166 rfl rfl ?_
        refine go_iastore (pc' := 169) (i := 1) (m := 3) (ds' := [(b, ia []), (c, ia [p2, p3, p4, p5])]) K rfl at_168 (by decide) (by simp) rfl rfl ?_
        exact J169 c _ _ (by simp) (own_avk4 p2 p3 p4 p5)
      
    ·
      refine go_iload (pc' := 79) K at_77 rfl rfl ?_
      refine go_newI (pc' := 81) (m := 1) (cap := 1) K (hw _ (List.mem_of_getElem? (i := 0) rfl)) at_79 (by decide) (by decide) (by decide) (by decide) (by decide) rfl (fun b hgb hlb => ?_)
      show Go W Q [(b, ia [0])] 1 1 81 #[.val (.int p0), .val (.int p1), .val (.int p2), .val (.int p3), .val (.int p4), .val (.int p5), .val (.int 1), .val (.int d1), .val (.int d2), .val (.int al0), .val (.int bg), .val (.int m0), .val (.int m1), .val (.int m2), .unset, .unset, .unset, .unset, .unset, .unset] [(.ref b)]
      refine go_astore (pc' := 83) (Ls' := #[.val (.int p0), .val (.int p1), .val (.int p2), .val (.int p3), .val (.int p4), .val (.int p5), .val (.int 1), .val (.int d1), .val (.int d2), .val (.int al0), .val (.int bg), .val (.int m0), .val (.int m1), .val (.int m2), .val (.ref b), .unset, .unset, .unset, .unset, .unset]) K at_81 rfl rfl rfl ?_
      refine go_iload (pc' := 85) K at_83 rfl rfl ?_
      refine go_if_le_f (pc' := 88) K at_85 (by decide) rfl ?_
      refine go_aload (pc' := 90) K at_88 rfl rfl rfl ?_
      refine go_iconst (pc' := 91) (v := 0) K at_90 rfl rfl ?_
      refine go_iload (pc' := 93) K at_91 rfl rfl ?_
      refine go_iastore (pc' := 94) (i := 0) (m := 0) (ds' := [(b, ia [m0])]) K rfl at_93 (by decide) (by simp) rfl rfl ?_
      refine go_iload (pc' := 96) K at_94 rfl rfl ?_
      refine go_iconst (pc' := 97) (v := 1) K at_96 rfl rfl ?_
      refine go_ic_le_t (pc' := 106) K at_97 (by decide) (by decide) (by decide) ?_
      refine go_iload (pc' := 108) K at_106 rfl rfl ?_
      refine go_iconst (pc' := 109) (v := 2) K at_108 rfl rfl ?_
      refine go_ic_le_t (pc' := 118) K at_109 (by decide) (by decide) (by decide) ?_
      have J169 : ∀ (c : Nat) (ys : List Int32) (al : Int32), ys.length ≤ 4 → (∀ v : Int32, 0 ≤ v.toInt → own_avl v al p2 p3 p4 p5 = own_av ys v) → Go W Q [(b, ia [m0]), (c, ia ys)] 2 5 169 #[.val (.int p0), .val (.int p1), .val (.int p2), .val (.int p3), .val (.int p4), .val (.int p5), .val (.int 1), .val (.int d1), .val (.int d2), .val (.int al), .val (.int bg), .val (.int m0), .val (.int m1), .val (.int m2), .val (.ref b), .val (.ref c), .unset, .unset, .unset, .unset] [] := by
        intro c ys al hy4 hys
        refine go_iload (pc' := 171) K at_169 rfl rfl ?_
        refine go_iconst (pc' := 172) (v := 1) K at_171 rfl rfl ?_
        refine go_ic_lt_f (pc' := 175) K at_172 (by decide) rfl ?_
        refine go_iload (pc' := 177) K at_175 rfl rfl ?_
        refine go_iload (pc' := 179) K at_177 rfl rfl ?_
        refine go_iload (pc' := 181) K at_179 rfl rfl ?_
        refine go_iload (pc' := 183) K at_181 rfl rfl ?_
        refine go_iload (pc' := 185) K at_183 rfl rfl ?_
        refine go_static (pc' := 188) (Wd := 0) (y' := ⟨"com/example/bridge/bridge/MultisetsFitsPinLaw", "mult", "(IIIII)I"⟩) (argsL := [(.int m0), (.int 1), (.int m0), (.int m1), (.int m2)]) (rest := []) K (hw _ (List.mem_of_getElem? (i := 5) rfl)) (hw _ (List.mem_of_getElem? (i := 6) rfl)) (hw _ (List.mem_of_getElem? (i := 7) rfl)) (hw _ (List.mem_of_getElem? (i := 8) rfl)) at_185 (ct_mult1 l Z h0 a0 hw _ m0 m0 m1 m2) (lenOf pd__IIIII_I rfl) rfl rfl (by decide) rfl (by decide) (by decide) (by decide) (by decide) rfl ?_
        rintro _ ds' ⟨r0, rfl, hr0, hds⟩
        rw [hds]
        show Go W Q [(b, ia [m0]), (c, ia ys)] 2 5 188 #[.val (.int p0), .val (.int p1), .val (.int p2), .val (.int p3), .val (.int p4), .val (.int p5), .val (.int 1), .val (.int d1), .val (.int d2), .val (.int al), .val (.int bg), .val (.int m0), .val (.int m1), .val (.int m2), .val (.ref b), .val (.ref c), .unset, .unset, .unset, .unset] [(.int r0)]
        refine go_iload (pc' := 190) K at_188 rfl rfl ?_
        refine go_iload (pc' := 192) K at_190 rfl rfl ?_
        refine go_iloadN (pc' := 193) K at_192 rfl rfl ?_
        refine go_iloadN (pc' := 194) K at_193 rfl rfl ?_
        refine go_iload (pc' := 196) K at_194 rfl rfl ?_
        refine go_iload (pc' := 198) K at_196 rfl rfl ?_
        refine go_static (pc' := 201) (Wd := 1) (y' := ⟨"com/example/bridge/bridge/MultisetsFitsPinLaw", "avail", "(IIIIII)I"⟩) (argsL := [(.int m0), (.int al), (.int p2), (.int p3), (.int p4), (.int p5)]) (rest := [(.int r0)]) K (hw _ (List.mem_of_getElem? (i := 9) rfl)) (hw _ (List.mem_of_getElem? (i := 10) rfl)) (hw _ (List.mem_of_getElem? (i := 7) rfl)) (hw _ (List.mem_of_getElem? (i := 11) rfl)) at_198 (ct_avail l Z h0 a0 hw _ m0 al p2 p3 p4 p5) (lenOf pd__IIIIII_I rfl) rfl rfl (by decide) rfl (by decide) (by decide) (by decide) (by decide) rfl ?_
        rintro _ ds' ⟨rfl, hds⟩
        rw [hds, hys m0 (by omega)]
        show Go W Q [(b, ia [m0]), (c, ia ys)] 2 5 201 #[.val (.int p0), .val (.int p1), .val (.int p2), .val (.int p3), .val (.int p4), .val (.int p5), .val (.int 1), .val (.int d1), .val (.int d2), .val (.int al), .val (.int bg), .val (.int m0), .val (.int m1), .val (.int m2), .val (.ref b), .val (.ref c), .unset, .unset, .unset, .unset] [(.int (own_av ys m0)), (.int r0)]
        refine go_ic_gt (pt := 208) (pc' := 204) K at_201 (by decide) (by decide) rfl (fun (o0 : (own_av ys m0).toInt < r0.toInt) => ?_) (fun (o0 : r0.toInt ≤ (own_av ys m0).toInt) => ?_)
        ·
          refine go_iconst (pc' := 209) (v := 0) K at_208 rfl rfl ?_
          refine go_istore (pc' := 211) (Ls' := #[.val (.int p0), .val (.int p1), .val (.int p2), .val (.int p3), .val (.int p4), .val (.int p5), .val (.int 1), .val (.int d1), .val (.int d2), .val (.int al), .val (.int bg), .val (.int m0), .val (.int m1), .val (.int m2), .val (.ref b), .val (.ref c), .val (.int 0), .unset, .unset, .unset]) K at_209 rfl rfl ?_
          refine go_iload (pc' := 213) K at_211 rfl rfl ?_
          refine go_iconst (pc' := 214) (v := 2) K at_213 rfl rfl ?_
          refine go_ic_lt_t (pc' := 246) K at_214 (by decide) (by decide) (by decide) ?_
          refine go_iconst (pc' := 247) (v := 1) K at_246 rfl rfl ?_
          refine go_goto (pc' := 251) K at_247 (by decide) (by decide) ?_
          refine go_istore (pc' := 253) (Ls' := #[.val (.int p0), .val (.int p1), .val (.int p2), .val (.int p3), .val (.int p4), .val (.int p5), .val (.int 1), .val (.int d1), .val (.int d2), .val (.int al), .val (.int bg), .val (.int m0), .val (.int m1), .val (.int m2), .val (.ref b), .val (.ref c), .val (.int 0), .val (.int 1), .unset, .unset]) K at_251 rfl rfl ?_
          refine go_iload (pc' := 255) K at_253 rfl rfl ?_
          refine go_iconst (pc' := 256) (v := 3) K at_255 rfl rfl ?_
          refine go_ic_lt_t (pc' := 288) K at_256 (by decide) (by decide) (by decide) ?_
          refine go_iconst (pc' := 289) (v := 1) K at_288 rfl rfl ?_
          refine go_goto (pc' := 293) K at_289 (by decide) (by decide) ?_
          refine go_istore (pc' := 295) (Ls' := #[.val (.int p0), .val (.int p1), .val (.int p2), .val (.int p3), .val (.int p4), .val (.int p5), .val (.int 1), .val (.int d1), .val (.int d2), .val (.int al), .val (.int bg), .val (.int m0), .val (.int m1), .val (.int m2), .val (.ref b), .val (.ref c), .val (.int 0), .val (.int 1), .val (.int 1), .unset]) K at_293 rfl rfl ?_
          refine go_iload (pc' := 297) K at_295 rfl rfl ?_
          refine go_if_eq_t (pc' := 314) K at_297 (by decide) (by decide) (by decide) ?_
          refine go_iconst (pc' := 315) (v := 0) K at_314 rfl rfl ?_
          refine go_istore (pc' := 317) (Ls' := #[.val (.int p0), .val (.int p1), .val (.int p2), .val (.int p3), .val (.int p4), .val (.int p5), .val (.int 1), .val (.int d1), .val (.int d2), .val (.int al), .val (.int bg), .val (.int m0), .val (.int m1), .val (.int m2), .val (.ref b), .val (.ref c), .val (.int 0), .val (.int 1), .val (.int 1), .val (.int 0)]) K at_315 rfl rfl ?_
          refine go_aload (pc' := 319) K at_317 rfl rfl rfl ?_
          refine go_aload (pc' := 321) K at_319 rfl rfl rfl ?_
          refine go_static (pc' := 324) (Wd := 0) (y' := ⟨"com/example/bridge/bridge/Multisets", "fits", "([I[I)Z"⟩) (argsL := [(.ref b), (.ref c)]) (rest := []) K (hw _ (List.mem_of_getElem? (i := 1) rfl)) (hw _ (List.mem_of_getElem? (i := 2) rfl)) (hw _ (List.mem_of_getElem? (i := 3) rfl)) (hw _ (List.mem_of_getElem? (i := 4) rfl)) at_321 (ct_fits1 l Z h0 a0 hw _ 0 1 b c m0 ys rfl rfl hy4 (by omega)) (lenOf pd___I_I_Z rfl) rfl rfl (by decide) rfl (by decide) (by decide) (by decide) (by decide) rfl ?_
          rintro _ ds' ⟨rfl, hds⟩
          rw [hds]
          show Go W Q [(b, ia [m0]), (c, ia ys)] 2 5 324 #[.val (.int p0), .val (.int p1), .val (.int p2), .val (.int p3), .val (.int p4), .val (.int p5), .val (.int 1), .val (.int d1), .val (.int d2), .val (.int al), .val (.int bg), .val (.int m0), .val (.int m1), .val (.int m2), .val (.ref b), .val (.ref c), .val (.int 0), .val (.int 1), .val (.int 1), .val (.int 0)] [(.int (own_fit [m0] ys))]
          refine go_iload (pc' := 326) K at_324 rfl rfl ?_
          refine go_ic_ne_f (pc' := 329) K at_326 (own_fit_f (m := m0) (by simp) (by omega)) rfl ?_
          refine go_iconst (pc' := 330) (v := 1) K at_329 rfl rfl ?_
          refine go_goto (pc' := 334) K at_330 (by decide) (by decide) ?_
          exact go_zret K at_334 (by decide) (by decide) (Or.inr rfl) (by subst hQ; rfl)
        ·
          refine go_iconst (pc' := 205) (v := 1) K at_204 rfl rfl ?_
          refine go_goto (pc' := 209) K at_205 (by decide) (by decide) ?_
          refine go_istore (pc' := 211) (Ls' := #[.val (.int p0), .val (.int p1), .val (.int p2), .val (.int p3), .val (.int p4), .val (.int p5), .val (.int 1), .val (.int d1), .val (.int d2), .val (.int al), .val (.int bg), .val (.int m0), .val (.int m1), .val (.int m2), .val (.ref b), .val (.ref c), .val (.int 1), .unset, .unset, .unset]) K at_209 rfl rfl ?_
          refine go_iload (pc' := 213) K at_211 rfl rfl ?_
          refine go_iconst (pc' := 214) (v := 2) K at_213 rfl rfl ?_
          refine go_ic_lt_t (pc' := 246) K at_214 (by decide) (by decide) (by decide) ?_
          refine go_iconst (pc' := 247) (v := 1) K at_246 rfl rfl ?_
          refine go_goto (pc' := 251) K at_247 (by decide) (by decide) ?_
          refine go_istore (pc' := 253) (Ls' := #[.val (.int p0), .val (.int p1), .val (.int p2), .val (.int p3), .val (.int p4), .val (.int p5), .val (.int 1), .val (.int d1), .val (.int d2), .val (.int al), .val (.int bg), .val (.int m0), .val (.int m1), .val (.int m2), .val (.ref b), .val (.ref c), .val (.int 1), .val (.int 1), .unset, .unset]) K at_251 rfl rfl ?_
          refine go_iload (pc' := 255) K at_253 rfl rfl ?_
          refine go_iconst (pc' := 256) (v := 3) K at_255 rfl rfl ?_
          refine go_ic_lt_t (pc' := 288) K at_256 (by decide) (by decide) (by decide) ?_
          refine go_iconst (pc' := 289) (v := 1) K at_288 rfl rfl ?_
          refine go_goto (pc' := 293) K at_289 (by decide) (by decide) ?_
          refine go_istore (pc' := 295) (Ls' := #[.val (.int p0), .val (.int p1), .val (.int p2), .val (.int p3), .val (.int p4), .val (.int p5), .val (.int 1), .val (.int d1), .val (.int d2), .val (.int al), .val (.int bg), .val (.int m0), .val (.int m1), .val (.int m2), .val (.ref b), .val (.ref c), .val (.int 1), .val (.int 1), .val (.int 1), .unset]) K at_293 rfl rfl ?_
          refine go_iload (pc' := 297) K at_295 rfl rfl ?_
          refine go_if_eq_f (pc' := 300) K at_297 (by decide) rfl ?_
          refine go_iload (pc' := 302) K at_300 rfl rfl ?_
          refine go_if_eq_f (pc' := 305) K at_302 (by decide) rfl ?_
          refine go_iload (pc' := 307) K at_305 rfl rfl ?_
          refine go_if_eq_f (pc' := 310) K at_307 (by decide) rfl ?_
          refine go_iconst (pc' := 311) (v := 1) K at_310 rfl rfl ?_
          refine go_goto (pc' := 315) K at_311 (by decide) (by decide) ?_
          refine go_istore (pc' := 317) (Ls' := #[.val (.int p0), .val (.int p1), .val (.int p2), .val (.int p3), .val (.int p4), .val (.int p5), .val (.int 1), .val (.int d1), .val (.int d2), .val (.int al), .val (.int bg), .val (.int m0), .val (.int m1), .val (.int m2), .val (.ref b), .val (.ref c), .val (.int 1), .val (.int 1), .val (.int 1), .val (.int 1)]) K at_315 rfl rfl ?_
          refine go_aload (pc' := 319) K at_317 rfl rfl rfl ?_
          refine go_aload (pc' := 321) K at_319 rfl rfl rfl ?_
          refine go_static (pc' := 324) (Wd := 0) (y' := ⟨"com/example/bridge/bridge/Multisets", "fits", "([I[I)Z"⟩) (argsL := [(.ref b), (.ref c)]) (rest := []) K (hw _ (List.mem_of_getElem? (i := 1) rfl)) (hw _ (List.mem_of_getElem? (i := 2) rfl)) (hw _ (List.mem_of_getElem? (i := 3) rfl)) (hw _ (List.mem_of_getElem? (i := 4) rfl)) at_321 (ct_fits1 l Z h0 a0 hw _ 0 1 b c m0 ys rfl rfl hy4 (by omega)) (lenOf pd___I_I_Z rfl) rfl rfl (by decide) rfl (by decide) (by decide) (by decide) (by decide) rfl ?_
          rintro _ ds' ⟨rfl, hds⟩
          rw [hds]
          show Go W Q [(b, ia [m0]), (c, ia ys)] 2 5 324 #[.val (.int p0), .val (.int p1), .val (.int p2), .val (.int p3), .val (.int p4), .val (.int p5), .val (.int 1), .val (.int d1), .val (.int d2), .val (.int al), .val (.int bg), .val (.int m0), .val (.int m1), .val (.int m2), .val (.ref b), .val (.ref c), .val (.int 1), .val (.int 1), .val (.int 1), .val (.int 1)] [(.int (own_fit [m0] ys))]
          refine go_iload (pc' := 326) K at_324 rfl rfl ?_
          refine go_ic_ne_f (pc' := 329) K at_326 (own_fit_t (by intro m hm; simp only [List.mem_cons, List.not_mem_nil, or_false] at hm; rcases hm with rfl <;> omega)) rfl ?_
          refine go_iconst (pc' := 330) (v := 1) K at_329 rfl rfl ?_
          refine go_goto (pc' := 334) K at_330 (by decide) (by decide) ?_
          exact go_zret K at_334 (by decide) (by decide) (Or.inr rfl) (by subst hQ; rfl)
      rcases ha5 with rfl | rfl | rfl | rfl | rfl
      ·
        refine go_iload (pc' := 120) K at_118 rfl rfl ?_
        refine go_newI (pc' := 122) (m := 0) (cap := 4) K (hw _ (List.mem_of_getElem? (i := 0) rfl)) at_120 (by decide) (by decide) (by decide) (by decide) (by decide) rfl (fun c hgc hlc => ?_)
        show Go W Q [(b, ia [m0]), (c, ia [])] 2 5 122 #[.val (.int p0), .val (.int p1), .val (.int p2), .val (.int p3), .val (.int p4), .val (.int p5), .val (.int 1), .val (.int d1), .val (.int d2), .val (.int 0), .val (.int bg), .val (.int m0), .val (.int m1), .val (.int m2), .val (.ref b), .unset, .unset, .unset, .unset, .unset] [(.ref c)]
        refine go_astore (pc' := 124) (Ls' := #[.val (.int p0), .val (.int p1), .val (.int p2), .val (.int p3), .val (.int p4), .val (.int p5), .val (.int 1), .val (.int d1), .val (.int d2), .val (.int 0), .val (.int bg), .val (.int m0), .val (.int m1), .val (.int m2), .val (.ref b), .val (.ref c), .unset, .unset, .unset, .unset]) K at_122 rfl rfl rfl ?_
        refine go_iload (pc' := 126) K at_124 rfl rfl ?_
        refine go_if_le_t (pc' := 134) K at_126 (by decide) (by decide) (by decide) ?_
        refine go_iload (pc' := 136) K at_134 rfl rfl ?_
        refine go_iconst (pc' := 137) (v := 1) K at_136 rfl rfl ?_
        refine go_ic_le_t (pc' := 145) K at_137 (by decide) (by decide) (by decide) ?_
        refine go_iload (pc' := 147) K at_145 rfl rfl ?_
        refine go_iconst (pc' := 148) (v := 2) K at_147 rfl rfl ?_
        refine go_ic_le_t (pc' := 157) K at_148 (by decide) (by decide) (by decide) ?_
        refine go_iload (pc' := 159) K at_157 rfl rfl ?_
        refine go_iconst (pc' := 160) (v := 3) K at_159 rfl rfl ?_
        refine go_ic_le_t (pc' := 169) K at_160 (by decide) (by decide) (by decide) ?_
        exact J169 c _ _ (by simp) (own_avk0 p2 p3 p4 p5)
      ·
        refine go_iload (pc' := 120) K at_118 rfl rfl ?_
        refine go_newI (pc' := 122) (m := 1) (cap := 4) K (hw _ (List.mem_of_getElem? (i := 0) rfl)) at_120 (by decide) (by decide) (by decide) (by decide) (by decide) rfl (fun c hgc hlc => ?_)
        show Go W Q [(b, ia [m0]), (c, ia [0])] 2 5 122 #[.val (.int p0), .val (.int p1), .val (.int p2), .val (.int p3), .val (.int p4), .val (.int p5), .val (.int 1), .val (.int d1), .val (.int d2), .val (.int 1), .val (.int bg), .val (.int m0), .val (.int m1), .val (.int m2), .val (.ref b), .unset, .unset, .unset, .unset, .unset] [(.ref c)]
        refine go_astore (pc' := 124) (Ls' := #[.val (.int p0), .val (.int p1), .val (.int p2), .val (.int p3), .val (.int p4), .val (.int p5), .val (.int 1), .val (.int d1), .val (.int d2), .val (.int 1), .val (.int bg), .val (.int m0), .val (.int m1), .val (.int m2), .val (.ref b), .val (.ref c), .unset, .unset, .unset, .unset]) K at_122 rfl rfl rfl ?_
        refine go_iload (pc' := 126) K at_124 rfl rfl ?_
        refine go_if_le_f (pc' := 129) K at_126 (by decide) rfl ?_
        refine go_aload (pc' := 131) K at_129 rfl rfl rfl ?_
        refine go_iconst (pc' := 132) (v := 0) K at_131 rfl rfl ?_
        refine go_iloadN (pc' := 133) K at_132 rfl rfl ?_
        refine go_iastore (pc' := 134) (i := 1) (m := 0) (ds' := [(b, ia [m0]), (c, ia [p2])]) K rfl at_133 (by decide) (by simp) rfl rfl ?_
        refine go_iload (pc' := 136) K at_134 rfl rfl ?_
        refine go_iconst (pc' := 137) (v := 1) K at_136 rfl rfl ?_
        refine go_ic_le_t (pc' := 145) K at_137 (by decide) (by decide) (by decide) ?_
        refine go_iload (pc' := 147) K at_145 rfl rfl ?_
        refine go_iconst (pc' := 148) (v := 2) K at_147 rfl rfl ?_
        refine go_ic_le_t (pc' := 157) K at_148 (by decide) (by decide) (by decide) ?_
        refine go_iload (pc' := 159) K at_157 rfl rfl ?_
        refine go_iconst (pc' := 160) (v := 3) K at_159 rfl rfl ?_
        refine go_ic_le_t (pc' := 169) K at_160 (by decide) (by decide) (by decide) ?_
        exact J169 c _ _ (by simp) (own_avk1 p2 p3 p4 p5)
      ·
        refine go_iload (pc' := 120) K at_118 rfl rfl ?_
        refine go_newI (pc' := 122) (m := 2) (cap := 4) K (hw _ (List.mem_of_getElem? (i := 0) rfl)) at_120 (by decide) (by decide) (by decide) (by decide) (by decide) rfl (fun c hgc hlc => ?_)
        show Go W Q [(b, ia [m0]), (c, ia [0, 0])] 2 5 122 #[.val (.int p0), .val (.int p1), .val (.int p2), .val (.int p3), .val (.int p4), .val (.int p5), .val (.int 1), .val (.int d1), .val (.int d2), .val (.int 2), .val (.int bg), .val (.int m0), .val (.int m1), .val (.int m2), .val (.ref b), .unset, .unset, .unset, .unset, .unset] [(.ref c)]
        refine go_astore (pc' := 124) (Ls' := #[.val (.int p0), .val (.int p1), .val (.int p2), .val (.int p3), .val (.int p4), .val (.int p5), .val (.int 1), .val (.int d1), .val (.int d2), .val (.int 2), .val (.int bg), .val (.int m0), .val (.int m1), .val (.int m2), .val (.ref b), .val (.ref c), .unset, .unset, .unset, .unset]) K at_122 rfl rfl rfl ?_
        refine go_iload (pc' := 126) K at_124 rfl rfl ?_
        refine go_if_le_f (pc' := 129) K at_126 (by decide) rfl ?_
        refine go_aload (pc' := 131) K at_129 rfl rfl rfl ?_
        refine go_iconst (pc' := 132) (v := 0) K at_131 rfl rfl ?_
        refine go_iloadN (pc' := 133) K at_132 rfl rfl ?_
        refine go_iastore (pc' := 134) (i := 1) (m := 0) (ds' := [(b, ia [m0]), (c, ia [p2, 0])]) K rfl at_133 (by decide) (by simp) rfl rfl ?_
        refine go_iload (pc' := 136) K at_134 rfl rfl ?_
        refine go_iconst (pc' := 137) (v := 1) K at_136 rfl rfl ?_
        refine go_ic_le_f (pc' := 140) K at_137 (by decide) rfl ?_
        refine go_aload (pc' := 142) K at_140 rfl rfl rfl ?_
        refine go_iconst (pc' := 143) (v := 1) K at_142 rfl rfl ?_
        refine go_iloadN (pc' := 144) K at_143 rfl rfl ?_
        refine go_iastore (pc' := 145) (i := 1) (m := 1) (ds' := [(b, ia [m0]), (c, ia [p2, p3])]) K rfl at_144 (by decide) (by simp) rfl rfl ?_
        refine go_iload (pc' := 147) K at_145 rfl rfl ?_
        refine go_iconst (pc' := 148) (v := 2) K at_147 rfl rfl ?_
        refine go_ic_le_t (pc' := 157) K at_148 (by decide) (by decide) (by decide) ?_
        refine go_iload (pc' := 159) K at_157 rfl rfl ?_
        refine go_iconst (pc' := 160) (v := 3) K at_159 rfl rfl ?_
        refine go_ic_le_t (pc' := 169) K at_160 (by decide) (by decide) (by decide) ?_
        exact J169 c _ _ (by simp) (own_avk2 p2 p3 p4 p5)
      ·
        refine go_iload (pc' := 120) K at_118 rfl rfl ?_
        refine go_newI (pc' := 122) (m := 3) (cap := 4) K (hw _ (List.mem_of_getElem? (i := 0) rfl)) at_120 (by decide) (by decide) (by decide) (by decide) (by decide) rfl (fun c hgc hlc => ?_)
        show Go W Q [(b, ia [m0]), (c, ia [0, 0, 0])] 2 5 122 #[.val (.int p0), .val (.int p1), .val (.int p2), .val (.int p3), .val (.int p4), .val (.int p5), .val (.int 1), .val (.int d1), .val (.int d2), .val (.int 3), .val (.int bg), .val (.int m0), .val (.int m1), .val (.int m2), .val (.ref b), .unset, .unset, .unset, .unset, .unset] [(.ref c)]
        refine go_astore (pc' := 124) (Ls' := #[.val (.int p0), .val (.int p1), .val (.int p2), .val (.int p3), .val (.int p4), .val (.int p5), .val (.int 1), .val (.int d1), .val (.int d2), .val (.int 3), .val (.int bg), .val (.int m0), .val (.int m1), .val (.int m2), .val (.ref b), .val (.ref c), .unset, .unset, .unset, .unset]) K at_122 rfl rfl rfl ?_
        refine go_iload (pc' := 126) K at_124 rfl rfl ?_
        refine go_if_le_f (pc' := 129) K at_126 (by decide) rfl ?_
        refine go_aload (pc' := 131) K at_129 rfl rfl rfl ?_
        refine go_iconst (pc' := 132) (v := 0) K at_131 rfl rfl ?_
        refine go_iloadN (pc' := 133) K at_132 rfl rfl ?_
        refine go_iastore (pc' := 134) (i := 1) (m := 0) (ds' := [(b, ia [m0]), (c, ia [p2, 0, 0])]) K rfl at_133 (by decide) (by simp) rfl rfl ?_
        refine go_iload (pc' := 136) K at_134 rfl rfl ?_
        refine go_iconst (pc' := 137) (v := 1) K at_136 rfl rfl ?_
        refine go_ic_le_f (pc' := 140) K at_137 (by decide) rfl ?_
        refine go_aload (pc' := 142) K at_140 rfl rfl rfl ?_
        refine go_iconst (pc' := 143) (v := 1) K at_142 rfl rfl ?_
        refine go_iloadN (pc' := 144) K at_143 rfl rfl ?_
        refine go_iastore (pc' := 145) (i := 1) (m := 1) (ds' := [(b, ia [m0]), (c, ia [p2, p3, 0])]) K rfl at_144 (by decide) (by simp) rfl rfl ?_
        refine go_iload (pc' := 147) K at_145 rfl rfl ?_
        refine go_iconst (pc' := 148) (v := 2) K at_147 rfl rfl ?_
        refine go_ic_le_f (pc' := 151) K at_148 (by decide) rfl ?_
        refine go_aload (pc' := 153) K at_151 rfl rfl rfl ?_
        refine go_iconst (pc' := 154) (v := 2) K at_153 rfl rfl ?_
        refine go_iload (pc' := 156) K at_154 rfl rfl ?_
        refine go_iastore (pc' := 157) (i := 1) (m := 2) (ds' := [(b, ia [m0]), (c, ia [p2, p3, p4])]) K rfl at_156 (by decide) (by simp) rfl rfl ?_
        refine go_iload (pc' := 159) K at_157 rfl rfl ?_
        refine go_iconst (pc' := 160) (v := 3) K at_159 rfl rfl ?_
        refine go_ic_le_t (pc' := 169) K at_160 (by decide) (by decide) (by decide) ?_
        exact J169 c _ _ (by simp) (own_avk3 p2 p3 p4 p5)
      ·
        refine go_iload (pc' := 120) K at_118 rfl rfl ?_
        refine go_newI (pc' := 122) (m := 4) (cap := 4) K (hw _ (List.mem_of_getElem? (i := 0) rfl)) at_120 (by decide) (by decide) (by decide) (by decide) (by decide) rfl (fun c hgc hlc => ?_)
        show Go W Q [(b, ia [m0]), (c, ia [0, 0, 0, 0])] 2 5 122 #[.val (.int p0), .val (.int p1), .val (.int p2), .val (.int p3), .val (.int p4), .val (.int p5), .val (.int 1), .val (.int d1), .val (.int d2), .val (.int 4), .val (.int bg), .val (.int m0), .val (.int m1), .val (.int m2), .val (.ref b), .unset, .unset, .unset, .unset, .unset] [(.ref c)]
        refine go_astore (pc' := 124) (Ls' := #[.val (.int p0), .val (.int p1), .val (.int p2), .val (.int p3), .val (.int p4), .val (.int p5), .val (.int 1), .val (.int d1), .val (.int d2), .val (.int 4), .val (.int bg), .val (.int m0), .val (.int m1), .val (.int m2), .val (.ref b), .val (.ref c), .unset, .unset, .unset, .unset]) K at_122 rfl rfl rfl ?_
        refine go_iload (pc' := 126) K at_124 rfl rfl ?_
        refine go_if_le_f (pc' := 129) K at_126 (by decide) rfl ?_
        refine go_aload (pc' := 131) K at_129 rfl rfl rfl ?_
        refine go_iconst (pc' := 132) (v := 0) K at_131 rfl rfl ?_
        refine go_iloadN (pc' := 133) K at_132 rfl rfl ?_
        refine go_iastore (pc' := 134) (i := 1) (m := 0) (ds' := [(b, ia [m0]), (c, ia [p2, 0, 0, 0])]) K rfl at_133 (by decide) (by simp) rfl rfl ?_
        refine go_iload (pc' := 136) K at_134 rfl rfl ?_
        refine go_iconst (pc' := 137) (v := 1) K at_136 rfl rfl ?_
        refine go_ic_le_f (pc' := 140) K at_137 (by decide) rfl ?_
        refine go_aload (pc' := 142) K at_140 rfl rfl rfl ?_
        refine go_iconst (pc' := 143) (v := 1) K at_142 rfl rfl ?_
        refine go_iloadN (pc' := 144) K at_143 rfl rfl ?_
        refine go_iastore (pc' := 145) (i := 1) (m := 1) (ds' := [(b, ia [m0]), (c, ia [p2, p3, 0, 0])]) K rfl at_144 (by decide) (by simp) rfl rfl ?_
        refine go_iload (pc' := 147) K at_145 rfl rfl ?_
        refine go_iconst (pc' := 148) (v := 2) K at_147 rfl rfl ?_
        refine go_ic_le_f (pc' := 151) K at_148 (by decide) rfl ?_
        refine go_aload (pc' := 153) K at_151 rfl rfl rfl ?_
        refine go_iconst (pc' := 154) (v := 2) K at_153 rfl rfl ?_
        refine go_iload (pc' := 156) K at_154 rfl rfl ?_
        refine go_iastore (pc' := 157) (i := 1) (m := 2) (ds' := [(b, ia [m0]), (c, ia [p2, p3, p4, 0])]) K rfl at_156 (by decide) (by simp) rfl rfl ?_
        refine go_iload (pc' := 159) K at_157 rfl rfl ?_
        refine go_iconst (pc' := 160) (v := 3) K at_159 rfl rfl ?_
        refine go_ic_le_f (pc' := 163) K at_160 (by decide) rfl ?_
        refine go_aload (pc' := 165) K at_163 rfl rfl rfl ?_
        refine go_iconst (pc' := 166) (v := 3) K at_165 rfl rfl ?_
        refine go_iload (pc' := 168) K at_166 rfl rfl ?_
        refine go_iastore (pc' := 169) (i := 1) (m := 3) (ds' := [(b, ia [m0]), (c, ia [p2, p3, p4, p5])]) K rfl at_168 (by decide) (by simp) rfl rfl ?_
        exact J169 c _ _ (by simp) (own_avk4 p2 p3 p4 p5)
      
    ·
      refine go_iload (pc' := 79) K at_77 rfl rfl ?_
      refine go_newI (pc' := 81) (m := 2) (cap := 2) K (hw _ (List.mem_of_getElem? (i := 0) rfl)) at_79 (by decide) (by decide) (by decide) (by decide) (by decide) rfl (fun b hgb hlb => ?_)
      show Go W Q [(b, ia [0, 0])] 1 2 81 #[.val (.int p0), .val (.int p1), .val (.int p2), .val (.int p3), .val (.int p4), .val (.int p5), .val (.int 2), .val (.int d1), .val (.int d2), .val (.int al0), .val (.int bg), .val (.int m0), .val (.int m1), .val (.int m2), .unset, .unset, .unset, .unset, .unset, .unset] [(.ref b)]
      refine go_astore (pc' := 83) (Ls' := #[.val (.int p0), .val (.int p1), .val (.int p2), .val (.int p3), .val (.int p4), .val (.int p5), .val (.int 2), .val (.int d1), .val (.int d2), .val (.int al0), .val (.int bg), .val (.int m0), .val (.int m1), .val (.int m2), .val (.ref b), .unset, .unset, .unset, .unset, .unset]) K at_81 rfl rfl rfl ?_
      refine go_iload (pc' := 85) K at_83 rfl rfl ?_
      refine go_if_le_f (pc' := 88) K at_85 (by decide) rfl ?_
      refine go_aload (pc' := 90) K at_88 rfl rfl rfl ?_
      refine go_iconst (pc' := 91) (v := 0) K at_90 rfl rfl ?_
      refine go_iload (pc' := 93) K at_91 rfl rfl ?_
      refine go_iastore (pc' := 94) (i := 0) (m := 0) (ds' := [(b, ia [m0, 0])]) K rfl at_93 (by decide) (by simp) rfl rfl ?_
      refine go_iload (pc' := 96) K at_94 rfl rfl ?_
      refine go_iconst (pc' := 97) (v := 1) K at_96 rfl rfl ?_
      refine go_ic_le_f (pc' := 100) K at_97 (by decide) rfl ?_
      refine go_aload (pc' := 102) K at_100 rfl rfl rfl ?_
      refine go_iconst (pc' := 103) (v := 1) K at_102 rfl rfl ?_
      refine go_iload (pc' := 105) K at_103 rfl rfl ?_
      refine go_iastore (pc' := 106) (i := 0) (m := 1) (ds' := [(b, ia [m0, m1])]) K rfl at_105 (by decide) (by simp) rfl rfl ?_
      refine go_iload (pc' := 108) K at_106 rfl rfl ?_
      refine go_iconst (pc' := 109) (v := 2) K at_108 rfl rfl ?_
      refine go_ic_le_t (pc' := 118) K at_109 (by decide) (by decide) (by decide) ?_
      have J169 : ∀ (c : Nat) (ys : List Int32) (al : Int32), ys.length ≤ 4 → (∀ v : Int32, 0 ≤ v.toInt → own_avl v al p2 p3 p4 p5 = own_av ys v) → Go W Q [(b, ia [m0, m1]), (c, ia ys)] 2 6 169 #[.val (.int p0), .val (.int p1), .val (.int p2), .val (.int p3), .val (.int p4), .val (.int p5), .val (.int 2), .val (.int d1), .val (.int d2), .val (.int al), .val (.int bg), .val (.int m0), .val (.int m1), .val (.int m2), .val (.ref b), .val (.ref c), .unset, .unset, .unset, .unset] [] := by
        intro c ys al hy4 hys
        refine go_iload (pc' := 171) K at_169 rfl rfl ?_
        refine go_iconst (pc' := 172) (v := 1) K at_171 rfl rfl ?_
        refine go_ic_lt_f (pc' := 175) K at_172 (by decide) rfl ?_
        refine go_iload (pc' := 177) K at_175 rfl rfl ?_
        refine go_iload (pc' := 179) K at_177 rfl rfl ?_
        refine go_iload (pc' := 181) K at_179 rfl rfl ?_
        refine go_iload (pc' := 183) K at_181 rfl rfl ?_
        refine go_iload (pc' := 185) K at_183 rfl rfl ?_
        refine go_static (pc' := 188) (Wd := 0) (y' := ⟨"com/example/bridge/bridge/MultisetsFitsPinLaw", "mult", "(IIIII)I"⟩) (argsL := [(.int m0), (.int 2), (.int m0), (.int m1), (.int m2)]) (rest := []) K (hw _ (List.mem_of_getElem? (i := 5) rfl)) (hw _ (List.mem_of_getElem? (i := 6) rfl)) (hw _ (List.mem_of_getElem? (i := 7) rfl)) (hw _ (List.mem_of_getElem? (i := 8) rfl)) at_185 (ct_mult2 l Z h0 a0 hw _ m0 m0 m1 m2) (lenOf pd__IIIII_I rfl) rfl rfl (by decide) rfl (by decide) (by decide) (by decide) (by decide) rfl ?_
        rintro _ ds' ⟨r0, rfl, hr0, hds⟩
        rw [hds]
        show Go W Q [(b, ia [m0, m1]), (c, ia ys)] 2 6 188 #[.val (.int p0), .val (.int p1), .val (.int p2), .val (.int p3), .val (.int p4), .val (.int p5), .val (.int 2), .val (.int d1), .val (.int d2), .val (.int al), .val (.int bg), .val (.int m0), .val (.int m1), .val (.int m2), .val (.ref b), .val (.ref c), .unset, .unset, .unset, .unset] [(.int r0)]
        refine go_iload (pc' := 190) K at_188 rfl rfl ?_
        refine go_iload (pc' := 192) K at_190 rfl rfl ?_
        refine go_iloadN (pc' := 193) K at_192 rfl rfl ?_
        refine go_iloadN (pc' := 194) K at_193 rfl rfl ?_
        refine go_iload (pc' := 196) K at_194 rfl rfl ?_
        refine go_iload (pc' := 198) K at_196 rfl rfl ?_
        refine go_static (pc' := 201) (Wd := 1) (y' := ⟨"com/example/bridge/bridge/MultisetsFitsPinLaw", "avail", "(IIIIII)I"⟩) (argsL := [(.int m0), (.int al), (.int p2), (.int p3), (.int p4), (.int p5)]) (rest := [(.int r0)]) K (hw _ (List.mem_of_getElem? (i := 9) rfl)) (hw _ (List.mem_of_getElem? (i := 10) rfl)) (hw _ (List.mem_of_getElem? (i := 7) rfl)) (hw _ (List.mem_of_getElem? (i := 11) rfl)) at_198 (ct_avail l Z h0 a0 hw _ m0 al p2 p3 p4 p5) (lenOf pd__IIIIII_I rfl) rfl rfl (by decide) rfl (by decide) (by decide) (by decide) (by decide) rfl ?_
        rintro _ ds' ⟨rfl, hds⟩
        rw [hds, hys m0 (by omega)]
        show Go W Q [(b, ia [m0, m1]), (c, ia ys)] 2 6 201 #[.val (.int p0), .val (.int p1), .val (.int p2), .val (.int p3), .val (.int p4), .val (.int p5), .val (.int 2), .val (.int d1), .val (.int d2), .val (.int al), .val (.int bg), .val (.int m0), .val (.int m1), .val (.int m2), .val (.ref b), .val (.ref c), .unset, .unset, .unset, .unset] [(.int (own_av ys m0)), (.int r0)]
        refine go_ic_gt (pt := 208) (pc' := 204) K at_201 (by decide) (by decide) rfl (fun (o0 : (own_av ys m0).toInt < r0.toInt) => ?_) (fun (o0 : r0.toInt ≤ (own_av ys m0).toInt) => ?_)
        ·
          refine go_iconst (pc' := 209) (v := 0) K at_208 rfl rfl ?_
          refine go_istore (pc' := 211) (Ls' := #[.val (.int p0), .val (.int p1), .val (.int p2), .val (.int p3), .val (.int p4), .val (.int p5), .val (.int 2), .val (.int d1), .val (.int d2), .val (.int al), .val (.int bg), .val (.int m0), .val (.int m1), .val (.int m2), .val (.ref b), .val (.ref c), .val (.int 0), .unset, .unset, .unset]) K at_209 rfl rfl ?_
          refine go_iload (pc' := 213) K at_211 rfl rfl ?_
          refine go_iconst (pc' := 214) (v := 2) K at_213 rfl rfl ?_
          refine go_ic_lt_f (pc' := 217) K at_214 (by decide) rfl ?_
          refine go_iload (pc' := 219) K at_217 rfl rfl ?_
          refine go_iload (pc' := 221) K at_219 rfl rfl ?_
          refine go_iload (pc' := 223) K at_221 rfl rfl ?_
          refine go_iload (pc' := 225) K at_223 rfl rfl ?_
          refine go_iload (pc' := 227) K at_225 rfl rfl ?_
          refine go_static (pc' := 230) (Wd := 0) (y' := ⟨"com/example/bridge/bridge/MultisetsFitsPinLaw", "mult", "(IIIII)I"⟩) (argsL := [(.int m1), (.int 2), (.int m0), (.int m1), (.int m2)]) (rest := []) K (hw _ (List.mem_of_getElem? (i := 5) rfl)) (hw _ (List.mem_of_getElem? (i := 6) rfl)) (hw _ (List.mem_of_getElem? (i := 7) rfl)) (hw _ (List.mem_of_getElem? (i := 8) rfl)) at_227 (ct_mult2 l Z h0 a0 hw _ m1 m0 m1 m2) (lenOf pd__IIIII_I rfl) rfl rfl (by decide) rfl (by decide) (by decide) (by decide) (by decide) rfl ?_
          rintro _ ds' ⟨r1, rfl, hr1, hds⟩
          rw [hds]
          show Go W Q [(b, ia [m0, m1]), (c, ia ys)] 2 6 230 #[.val (.int p0), .val (.int p1), .val (.int p2), .val (.int p3), .val (.int p4), .val (.int p5), .val (.int 2), .val (.int d1), .val (.int d2), .val (.int al), .val (.int bg), .val (.int m0), .val (.int m1), .val (.int m2), .val (.ref b), .val (.ref c), .val (.int 0), .unset, .unset, .unset] [(.int r1)]
          refine go_iload (pc' := 232) K at_230 rfl rfl ?_
          refine go_iload (pc' := 234) K at_232 rfl rfl ?_
          refine go_iloadN (pc' := 235) K at_234 rfl rfl ?_
          refine go_iloadN (pc' := 236) K at_235 rfl rfl ?_
          refine go_iload (pc' := 238) K at_236 rfl rfl ?_
          refine go_iload (pc' := 240) K at_238 rfl rfl ?_
          refine go_static (pc' := 243) (Wd := 1) (y' := ⟨"com/example/bridge/bridge/MultisetsFitsPinLaw", "avail", "(IIIIII)I"⟩) (argsL := [(.int m1), (.int al), (.int p2), (.int p3), (.int p4), (.int p5)]) (rest := [(.int r1)]) K (hw _ (List.mem_of_getElem? (i := 9) rfl)) (hw _ (List.mem_of_getElem? (i := 10) rfl)) (hw _ (List.mem_of_getElem? (i := 7) rfl)) (hw _ (List.mem_of_getElem? (i := 11) rfl)) at_240 (ct_avail l Z h0 a0 hw _ m1 al p2 p3 p4 p5) (lenOf pd__IIIIII_I rfl) rfl rfl (by decide) rfl (by decide) (by decide) (by decide) (by decide) rfl ?_
          rintro _ ds' ⟨rfl, hds⟩
          rw [hds, hys m1 (by omega)]
          show Go W Q [(b, ia [m0, m1]), (c, ia ys)] 2 6 243 #[.val (.int p0), .val (.int p1), .val (.int p2), .val (.int p3), .val (.int p4), .val (.int p5), .val (.int 2), .val (.int d1), .val (.int d2), .val (.int al), .val (.int bg), .val (.int m0), .val (.int m1), .val (.int m2), .val (.ref b), .val (.ref c), .val (.int 0), .unset, .unset, .unset] [(.int (own_av ys m1)), (.int r1)]
          refine go_ic_gt (pt := 250) (pc' := 246) K at_243 (by decide) (by decide) rfl (fun (o1 : (own_av ys m1).toInt < r1.toInt) => ?_) (fun (o1 : r1.toInt ≤ (own_av ys m1).toInt) => ?_)
          ·
            refine go_iconst (pc' := 251) (v := 0) K at_250 rfl rfl ?_
            refine go_istore (pc' := 253) (Ls' := #[.val (.int p0), .val (.int p1), .val (.int p2), .val (.int p3), .val (.int p4), .val (.int p5), .val (.int 2), .val (.int d1), .val (.int d2), .val (.int al), .val (.int bg), .val (.int m0), .val (.int m1), .val (.int m2), .val (.ref b), .val (.ref c), .val (.int 0), .val (.int 0), .unset, .unset]) K at_251 rfl rfl ?_
            refine go_iload (pc' := 255) K at_253 rfl rfl ?_
            refine go_iconst (pc' := 256) (v := 3) K at_255 rfl rfl ?_
            refine go_ic_lt_t (pc' := 288) K at_256 (by decide) (by decide) (by decide) ?_
            refine go_iconst (pc' := 289) (v := 1) K at_288 rfl rfl ?_
            refine go_goto (pc' := 293) K at_289 (by decide) (by decide) ?_
            refine go_istore (pc' := 295) (Ls' := #[.val (.int p0), .val (.int p1), .val (.int p2), .val (.int p3), .val (.int p4), .val (.int p5), .val (.int 2), .val (.int d1), .val (.int d2), .val (.int al), .val (.int bg), .val (.int m0), .val (.int m1), .val (.int m2), .val (.ref b), .val (.ref c), .val (.int 0), .val (.int 0), .val (.int 1), .unset]) K at_293 rfl rfl ?_
            refine go_iload (pc' := 297) K at_295 rfl rfl ?_
            refine go_if_eq_t (pc' := 314) K at_297 (by decide) (by decide) (by decide) ?_
            refine go_iconst (pc' := 315) (v := 0) K at_314 rfl rfl ?_
            refine go_istore (pc' := 317) (Ls' := #[.val (.int p0), .val (.int p1), .val (.int p2), .val (.int p3), .val (.int p4), .val (.int p5), .val (.int 2), .val (.int d1), .val (.int d2), .val (.int al), .val (.int bg), .val (.int m0), .val (.int m1), .val (.int m2), .val (.ref b), .val (.ref c), .val (.int 0), .val (.int 0), .val (.int 1), .val (.int 0)]) K at_315 rfl rfl ?_
            refine go_aload (pc' := 319) K at_317 rfl rfl rfl ?_
            refine go_aload (pc' := 321) K at_319 rfl rfl rfl ?_
            refine go_static (pc' := 324) (Wd := 0) (y' := ⟨"com/example/bridge/bridge/Multisets", "fits", "([I[I)Z"⟩) (argsL := [(.ref b), (.ref c)]) (rest := []) K (hw _ (List.mem_of_getElem? (i := 1) rfl)) (hw _ (List.mem_of_getElem? (i := 2) rfl)) (hw _ (List.mem_of_getElem? (i := 3) rfl)) (hw _ (List.mem_of_getElem? (i := 4) rfl)) at_321 (ct_fits2 l Z h0 a0 hw _ 0 1 b c m0 m1 ys rfl rfl hy4 (by omega) (by omega) (by omega)) (lenOf pd___I_I_Z rfl) rfl rfl (by decide) rfl (by decide) (by decide) (by decide) (by decide) rfl ?_
            rintro _ ds' ⟨rfl, hds⟩
            rw [hds]
            show Go W Q [(b, ia [m0, m1]), (c, ia ys)] 2 6 324 #[.val (.int p0), .val (.int p1), .val (.int p2), .val (.int p3), .val (.int p4), .val (.int p5), .val (.int 2), .val (.int d1), .val (.int d2), .val (.int al), .val (.int bg), .val (.int m0), .val (.int m1), .val (.int m2), .val (.ref b), .val (.ref c), .val (.int 0), .val (.int 0), .val (.int 1), .val (.int 0)] [(.int (own_fit [m0, m1] ys))]
            refine go_iload (pc' := 326) K at_324 rfl rfl ?_
            refine go_ic_ne_f (pc' := 329) K at_326 (own_fit_f (m := m0) (by simp) (by omega)) rfl ?_
            refine go_iconst (pc' := 330) (v := 1) K at_329 rfl rfl ?_
            refine go_goto (pc' := 334) K at_330 (by decide) (by decide) ?_
            exact go_zret K at_334 (by decide) (by decide) (Or.inr rfl) (by subst hQ; rfl)
          ·
            refine go_iconst (pc' := 247) (v := 1) K at_246 rfl rfl ?_
            refine go_goto (pc' := 251) K at_247 (by decide) (by decide) ?_
            refine go_istore (pc' := 253) (Ls' := #[.val (.int p0), .val (.int p1), .val (.int p2), .val (.int p3), .val (.int p4), .val (.int p5), .val (.int 2), .val (.int d1), .val (.int d2), .val (.int al), .val (.int bg), .val (.int m0), .val (.int m1), .val (.int m2), .val (.ref b), .val (.ref c), .val (.int 0), .val (.int 1), .unset, .unset]) K at_251 rfl rfl ?_
            refine go_iload (pc' := 255) K at_253 rfl rfl ?_
            refine go_iconst (pc' := 256) (v := 3) K at_255 rfl rfl ?_
            refine go_ic_lt_t (pc' := 288) K at_256 (by decide) (by decide) (by decide) ?_
            refine go_iconst (pc' := 289) (v := 1) K at_288 rfl rfl ?_
            refine go_goto (pc' := 293) K at_289 (by decide) (by decide) ?_
            refine go_istore (pc' := 295) (Ls' := #[.val (.int p0), .val (.int p1), .val (.int p2), .val (.int p3), .val (.int p4), .val (.int p5), .val (.int 2), .val (.int d1), .val (.int d2), .val (.int al), .val (.int bg), .val (.int m0), .val (.int m1), .val (.int m2), .val (.ref b), .val (.ref c), .val (.int 0), .val (.int 1), .val (.int 1), .unset]) K at_293 rfl rfl ?_
            refine go_iload (pc' := 297) K at_295 rfl rfl ?_
            refine go_if_eq_t (pc' := 314) K at_297 (by decide) (by decide) (by decide) ?_
            refine go_iconst (pc' := 315) (v := 0) K at_314 rfl rfl ?_
            refine go_istore (pc' := 317) (Ls' := #[.val (.int p0), .val (.int p1), .val (.int p2), .val (.int p3), .val (.int p4), .val (.int p5), .val (.int 2), .val (.int d1), .val (.int d2), .val (.int al), .val (.int bg), .val (.int m0), .val (.int m1), .val (.int m2), .val (.ref b), .val (.ref c), .val (.int 0), .val (.int 1), .val (.int 1), .val (.int 0)]) K at_315 rfl rfl ?_
            refine go_aload (pc' := 319) K at_317 rfl rfl rfl ?_
            refine go_aload (pc' := 321) K at_319 rfl rfl rfl ?_
            refine go_static (pc' := 324) (Wd := 0) (y' := ⟨"com/example/bridge/bridge/Multisets", "fits", "([I[I)Z"⟩) (argsL := [(.ref b), (.ref c)]) (rest := []) K (hw _ (List.mem_of_getElem? (i := 1) rfl)) (hw _ (List.mem_of_getElem? (i := 2) rfl)) (hw _ (List.mem_of_getElem? (i := 3) rfl)) (hw _ (List.mem_of_getElem? (i := 4) rfl)) at_321 (ct_fits2 l Z h0 a0 hw _ 0 1 b c m0 m1 ys rfl rfl hy4 (by omega) (by omega) (by omega)) (lenOf pd___I_I_Z rfl) rfl rfl (by decide) rfl (by decide) (by decide) (by decide) (by decide) rfl ?_
            rintro _ ds' ⟨rfl, hds⟩
            rw [hds]
            show Go W Q [(b, ia [m0, m1]), (c, ia ys)] 2 6 324 #[.val (.int p0), .val (.int p1), .val (.int p2), .val (.int p3), .val (.int p4), .val (.int p5), .val (.int 2), .val (.int d1), .val (.int d2), .val (.int al), .val (.int bg), .val (.int m0), .val (.int m1), .val (.int m2), .val (.ref b), .val (.ref c), .val (.int 0), .val (.int 1), .val (.int 1), .val (.int 0)] [(.int (own_fit [m0, m1] ys))]
            refine go_iload (pc' := 326) K at_324 rfl rfl ?_
            refine go_ic_ne_f (pc' := 329) K at_326 (own_fit_f (m := m0) (by simp) (by omega)) rfl ?_
            refine go_iconst (pc' := 330) (v := 1) K at_329 rfl rfl ?_
            refine go_goto (pc' := 334) K at_330 (by decide) (by decide) ?_
            exact go_zret K at_334 (by decide) (by decide) (Or.inr rfl) (by subst hQ; rfl)
        ·
          refine go_iconst (pc' := 205) (v := 1) K at_204 rfl rfl ?_
          refine go_goto (pc' := 209) K at_205 (by decide) (by decide) ?_
          refine go_istore (pc' := 211) (Ls' := #[.val (.int p0), .val (.int p1), .val (.int p2), .val (.int p3), .val (.int p4), .val (.int p5), .val (.int 2), .val (.int d1), .val (.int d2), .val (.int al), .val (.int bg), .val (.int m0), .val (.int m1), .val (.int m2), .val (.ref b), .val (.ref c), .val (.int 1), .unset, .unset, .unset]) K at_209 rfl rfl ?_
          refine go_iload (pc' := 213) K at_211 rfl rfl ?_
          refine go_iconst (pc' := 214) (v := 2) K at_213 rfl rfl ?_
          refine go_ic_lt_f (pc' := 217) K at_214 (by decide) rfl ?_
          refine go_iload (pc' := 219) K at_217 rfl rfl ?_
          refine go_iload (pc' := 221) K at_219 rfl rfl ?_
          refine go_iload (pc' := 223) K at_221 rfl rfl ?_
          refine go_iload (pc' := 225) K at_223 rfl rfl ?_
          refine go_iload (pc' := 227) K at_225 rfl rfl ?_
          refine go_static (pc' := 230) (Wd := 0) (y' := ⟨"com/example/bridge/bridge/MultisetsFitsPinLaw", "mult", "(IIIII)I"⟩) (argsL := [(.int m1), (.int 2), (.int m0), (.int m1), (.int m2)]) (rest := []) K (hw _ (List.mem_of_getElem? (i := 5) rfl)) (hw _ (List.mem_of_getElem? (i := 6) rfl)) (hw _ (List.mem_of_getElem? (i := 7) rfl)) (hw _ (List.mem_of_getElem? (i := 8) rfl)) at_227 (ct_mult2 l Z h0 a0 hw _ m1 m0 m1 m2) (lenOf pd__IIIII_I rfl) rfl rfl (by decide) rfl (by decide) (by decide) (by decide) (by decide) rfl ?_
          rintro _ ds' ⟨r1, rfl, hr1, hds⟩
          rw [hds]
          show Go W Q [(b, ia [m0, m1]), (c, ia ys)] 2 6 230 #[.val (.int p0), .val (.int p1), .val (.int p2), .val (.int p3), .val (.int p4), .val (.int p5), .val (.int 2), .val (.int d1), .val (.int d2), .val (.int al), .val (.int bg), .val (.int m0), .val (.int m1), .val (.int m2), .val (.ref b), .val (.ref c), .val (.int 1), .unset, .unset, .unset] [(.int r1)]
          refine go_iload (pc' := 232) K at_230 rfl rfl ?_
          refine go_iload (pc' := 234) K at_232 rfl rfl ?_
          refine go_iloadN (pc' := 235) K at_234 rfl rfl ?_
          refine go_iloadN (pc' := 236) K at_235 rfl rfl ?_
          refine go_iload (pc' := 238) K at_236 rfl rfl ?_
          refine go_iload (pc' := 240) K at_238 rfl rfl ?_
          refine go_static (pc' := 243) (Wd := 1) (y' := ⟨"com/example/bridge/bridge/MultisetsFitsPinLaw", "avail", "(IIIIII)I"⟩) (argsL := [(.int m1), (.int al), (.int p2), (.int p3), (.int p4), (.int p5)]) (rest := [(.int r1)]) K (hw _ (List.mem_of_getElem? (i := 9) rfl)) (hw _ (List.mem_of_getElem? (i := 10) rfl)) (hw _ (List.mem_of_getElem? (i := 7) rfl)) (hw _ (List.mem_of_getElem? (i := 11) rfl)) at_240 (ct_avail l Z h0 a0 hw _ m1 al p2 p3 p4 p5) (lenOf pd__IIIIII_I rfl) rfl rfl (by decide) rfl (by decide) (by decide) (by decide) (by decide) rfl ?_
          rintro _ ds' ⟨rfl, hds⟩
          rw [hds, hys m1 (by omega)]
          show Go W Q [(b, ia [m0, m1]), (c, ia ys)] 2 6 243 #[.val (.int p0), .val (.int p1), .val (.int p2), .val (.int p3), .val (.int p4), .val (.int p5), .val (.int 2), .val (.int d1), .val (.int d2), .val (.int al), .val (.int bg), .val (.int m0), .val (.int m1), .val (.int m2), .val (.ref b), .val (.ref c), .val (.int 1), .unset, .unset, .unset] [(.int (own_av ys m1)), (.int r1)]
          refine go_ic_gt (pt := 250) (pc' := 246) K at_243 (by decide) (by decide) rfl (fun (o1 : (own_av ys m1).toInt < r1.toInt) => ?_) (fun (o1 : r1.toInt ≤ (own_av ys m1).toInt) => ?_)
          ·
            refine go_iconst (pc' := 251) (v := 0) K at_250 rfl rfl ?_
            refine go_istore (pc' := 253) (Ls' := #[.val (.int p0), .val (.int p1), .val (.int p2), .val (.int p3), .val (.int p4), .val (.int p5), .val (.int 2), .val (.int d1), .val (.int d2), .val (.int al), .val (.int bg), .val (.int m0), .val (.int m1), .val (.int m2), .val (.ref b), .val (.ref c), .val (.int 1), .val (.int 0), .unset, .unset]) K at_251 rfl rfl ?_
            refine go_iload (pc' := 255) K at_253 rfl rfl ?_
            refine go_iconst (pc' := 256) (v := 3) K at_255 rfl rfl ?_
            refine go_ic_lt_t (pc' := 288) K at_256 (by decide) (by decide) (by decide) ?_
            refine go_iconst (pc' := 289) (v := 1) K at_288 rfl rfl ?_
            refine go_goto (pc' := 293) K at_289 (by decide) (by decide) ?_
            refine go_istore (pc' := 295) (Ls' := #[.val (.int p0), .val (.int p1), .val (.int p2), .val (.int p3), .val (.int p4), .val (.int p5), .val (.int 2), .val (.int d1), .val (.int d2), .val (.int al), .val (.int bg), .val (.int m0), .val (.int m1), .val (.int m2), .val (.ref b), .val (.ref c), .val (.int 1), .val (.int 0), .val (.int 1), .unset]) K at_293 rfl rfl ?_
            refine go_iload (pc' := 297) K at_295 rfl rfl ?_
            refine go_if_eq_f (pc' := 300) K at_297 (by decide) rfl ?_
            refine go_iload (pc' := 302) K at_300 rfl rfl ?_
            refine go_if_eq_t (pc' := 314) K at_302 (by decide) (by decide) (by decide) ?_
            refine go_iconst (pc' := 315) (v := 0) K at_314 rfl rfl ?_
            refine go_istore (pc' := 317) (Ls' := #[.val (.int p0), .val (.int p1), .val (.int p2), .val (.int p3), .val (.int p4), .val (.int p5), .val (.int 2), .val (.int d1), .val (.int d2), .val (.int al), .val (.int bg), .val (.int m0), .val (.int m1), .val (.int m2), .val (.ref b), .val (.ref c), .val (.int 1), .val (.int 0), .val (.int 1), .val (.int 0)]) K at_315 rfl rfl ?_
            refine go_aload (pc' := 319) K at_317 rfl rfl rfl ?_
            refine go_aload (pc' := 321) K at_319 rfl rfl rfl ?_
            refine go_static (pc' := 324) (Wd := 0) (y' := ⟨"com/example/bridge/bridge/Multisets", "fits", "([I[I)Z"⟩) (argsL := [(.ref b), (.ref c)]) (rest := []) K (hw _ (List.mem_of_getElem? (i := 1) rfl)) (hw _ (List.mem_of_getElem? (i := 2) rfl)) (hw _ (List.mem_of_getElem? (i := 3) rfl)) (hw _ (List.mem_of_getElem? (i := 4) rfl)) at_321 (ct_fits2 l Z h0 a0 hw _ 0 1 b c m0 m1 ys rfl rfl hy4 (by omega) (by omega) (by omega)) (lenOf pd___I_I_Z rfl) rfl rfl (by decide) rfl (by decide) (by decide) (by decide) (by decide) rfl ?_
            rintro _ ds' ⟨rfl, hds⟩
            rw [hds]
            show Go W Q [(b, ia [m0, m1]), (c, ia ys)] 2 6 324 #[.val (.int p0), .val (.int p1), .val (.int p2), .val (.int p3), .val (.int p4), .val (.int p5), .val (.int 2), .val (.int d1), .val (.int d2), .val (.int al), .val (.int bg), .val (.int m0), .val (.int m1), .val (.int m2), .val (.ref b), .val (.ref c), .val (.int 1), .val (.int 0), .val (.int 1), .val (.int 0)] [(.int (own_fit [m0, m1] ys))]
            refine go_iload (pc' := 326) K at_324 rfl rfl ?_
            refine go_ic_ne_f (pc' := 329) K at_326 (own_fit_f (m := m1) (by simp) (by omega)) rfl ?_
            refine go_iconst (pc' := 330) (v := 1) K at_329 rfl rfl ?_
            refine go_goto (pc' := 334) K at_330 (by decide) (by decide) ?_
            exact go_zret K at_334 (by decide) (by decide) (Or.inr rfl) (by subst hQ; rfl)
          ·
            refine go_iconst (pc' := 247) (v := 1) K at_246 rfl rfl ?_
            refine go_goto (pc' := 251) K at_247 (by decide) (by decide) ?_
            refine go_istore (pc' := 253) (Ls' := #[.val (.int p0), .val (.int p1), .val (.int p2), .val (.int p3), .val (.int p4), .val (.int p5), .val (.int 2), .val (.int d1), .val (.int d2), .val (.int al), .val (.int bg), .val (.int m0), .val (.int m1), .val (.int m2), .val (.ref b), .val (.ref c), .val (.int 1), .val (.int 1), .unset, .unset]) K at_251 rfl rfl ?_
            refine go_iload (pc' := 255) K at_253 rfl rfl ?_
            refine go_iconst (pc' := 256) (v := 3) K at_255 rfl rfl ?_
            refine go_ic_lt_t (pc' := 288) K at_256 (by decide) (by decide) (by decide) ?_
            refine go_iconst (pc' := 289) (v := 1) K at_288 rfl rfl ?_
            refine go_goto (pc' := 293) K at_289 (by decide) (by decide) ?_
            refine go_istore (pc' := 295) (Ls' := #[.val (.int p0), .val (.int p1), .val (.int p2), .val (.int p3), .val (.int p4), .val (.int p5), .val (.int 2), .val (.int d1), .val (.int d2), .val (.int al), .val (.int bg), .val (.int m0), .val (.int m1), .val (.int m2), .val (.ref b), .val (.ref c), .val (.int 1), .val (.int 1), .val (.int 1), .unset]) K at_293 rfl rfl ?_
            refine go_iload (pc' := 297) K at_295 rfl rfl ?_
            refine go_if_eq_f (pc' := 300) K at_297 (by decide) rfl ?_
            refine go_iload (pc' := 302) K at_300 rfl rfl ?_
            refine go_if_eq_f (pc' := 305) K at_302 (by decide) rfl ?_
            refine go_iload (pc' := 307) K at_305 rfl rfl ?_
            refine go_if_eq_f (pc' := 310) K at_307 (by decide) rfl ?_
            refine go_iconst (pc' := 311) (v := 1) K at_310 rfl rfl ?_
            refine go_goto (pc' := 315) K at_311 (by decide) (by decide) ?_
            refine go_istore (pc' := 317) (Ls' := #[.val (.int p0), .val (.int p1), .val (.int p2), .val (.int p3), .val (.int p4), .val (.int p5), .val (.int 2), .val (.int d1), .val (.int d2), .val (.int al), .val (.int bg), .val (.int m0), .val (.int m1), .val (.int m2), .val (.ref b), .val (.ref c), .val (.int 1), .val (.int 1), .val (.int 1), .val (.int 1)]) K at_315 rfl rfl ?_
            refine go_aload (pc' := 319) K at_317 rfl rfl rfl ?_
            refine go_aload (pc' := 321) K at_319 rfl rfl rfl ?_
            refine go_static (pc' := 324) (Wd := 0) (y' := ⟨"com/example/bridge/bridge/Multisets", "fits", "([I[I)Z"⟩) (argsL := [(.ref b), (.ref c)]) (rest := []) K (hw _ (List.mem_of_getElem? (i := 1) rfl)) (hw _ (List.mem_of_getElem? (i := 2) rfl)) (hw _ (List.mem_of_getElem? (i := 3) rfl)) (hw _ (List.mem_of_getElem? (i := 4) rfl)) at_321 (ct_fits2 l Z h0 a0 hw _ 0 1 b c m0 m1 ys rfl rfl hy4 (by omega) (by omega) (by omega)) (lenOf pd___I_I_Z rfl) rfl rfl (by decide) rfl (by decide) (by decide) (by decide) (by decide) rfl ?_
            rintro _ ds' ⟨rfl, hds⟩
            rw [hds]
            show Go W Q [(b, ia [m0, m1]), (c, ia ys)] 2 6 324 #[.val (.int p0), .val (.int p1), .val (.int p2), .val (.int p3), .val (.int p4), .val (.int p5), .val (.int 2), .val (.int d1), .val (.int d2), .val (.int al), .val (.int bg), .val (.int m0), .val (.int m1), .val (.int m2), .val (.ref b), .val (.ref c), .val (.int 1), .val (.int 1), .val (.int 1), .val (.int 1)] [(.int (own_fit [m0, m1] ys))]
            refine go_iload (pc' := 326) K at_324 rfl rfl ?_
            refine go_ic_ne_f (pc' := 329) K at_326 (own_fit_t (by intro m hm; simp only [List.mem_cons, List.not_mem_nil, or_false] at hm; rcases hm with rfl | rfl <;> omega)) rfl ?_
            refine go_iconst (pc' := 330) (v := 1) K at_329 rfl rfl ?_
            refine go_goto (pc' := 334) K at_330 (by decide) (by decide) ?_
            exact go_zret K at_334 (by decide) (by decide) (Or.inr rfl) (by subst hQ; rfl)
      rcases ha5 with rfl | rfl | rfl | rfl | rfl
      ·
        refine go_iload (pc' := 120) K at_118 rfl rfl ?_
        refine go_newI (pc' := 122) (m := 0) (cap := 4) K (hw _ (List.mem_of_getElem? (i := 0) rfl)) at_120 (by decide) (by decide) (by decide) (by decide) (by decide) rfl (fun c hgc hlc => ?_)
        show Go W Q [(b, ia [m0, m1]), (c, ia [])] 2 6 122 #[.val (.int p0), .val (.int p1), .val (.int p2), .val (.int p3), .val (.int p4), .val (.int p5), .val (.int 2), .val (.int d1), .val (.int d2), .val (.int 0), .val (.int bg), .val (.int m0), .val (.int m1), .val (.int m2), .val (.ref b), .unset, .unset, .unset, .unset, .unset] [(.ref c)]
        refine go_astore (pc' := 124) (Ls' := #[.val (.int p0), .val (.int p1), .val (.int p2), .val (.int p3), .val (.int p4), .val (.int p5), .val (.int 2), .val (.int d1), .val (.int d2), .val (.int 0), .val (.int bg), .val (.int m0), .val (.int m1), .val (.int m2), .val (.ref b), .val (.ref c), .unset, .unset, .unset, .unset]) K at_122 rfl rfl rfl ?_
        refine go_iload (pc' := 126) K at_124 rfl rfl ?_
        refine go_if_le_t (pc' := 134) K at_126 (by decide) (by decide) (by decide) ?_
        refine go_iload (pc' := 136) K at_134 rfl rfl ?_
        refine go_iconst (pc' := 137) (v := 1) K at_136 rfl rfl ?_
        refine go_ic_le_t (pc' := 145) K at_137 (by decide) (by decide) (by decide) ?_
        refine go_iload (pc' := 147) K at_145 rfl rfl ?_
        refine go_iconst (pc' := 148) (v := 2) K at_147 rfl rfl ?_
        refine go_ic_le_t (pc' := 157) K at_148 (by decide) (by decide) (by decide) ?_
        refine go_iload (pc' := 159) K at_157 rfl rfl ?_
        refine go_iconst (pc' := 160) (v := 3) K at_159 rfl rfl ?_
        refine go_ic_le_t (pc' := 169) K at_160 (by decide) (by decide) (by decide) ?_
        exact J169 c _ _ (by simp) (own_avk0 p2 p3 p4 p5)
      ·
        refine go_iload (pc' := 120) K at_118 rfl rfl ?_
        refine go_newI (pc' := 122) (m := 1) (cap := 4) K (hw _ (List.mem_of_getElem? (i := 0) rfl)) at_120 (by decide) (by decide) (by decide) (by decide) (by decide) rfl (fun c hgc hlc => ?_)
        show Go W Q [(b, ia [m0, m1]), (c, ia [0])] 2 6 122 #[.val (.int p0), .val (.int p1), .val (.int p2), .val (.int p3), .val (.int p4), .val (.int p5), .val (.int 2), .val (.int d1), .val (.int d2), .val (.int 1), .val (.int bg), .val (.int m0), .val (.int m1), .val (.int m2), .val (.ref b), .unset, .unset, .unset, .unset, .unset] [(.ref c)]
        refine go_astore (pc' := 124) (Ls' := #[.val (.int p0), .val (.int p1), .val (.int p2), .val (.int p3), .val (.int p4), .val (.int p5), .val (.int 2), .val (.int d1), .val (.int d2), .val (.int 1), .val (.int bg), .val (.int m0), .val (.int m1), .val (.int m2), .val (.ref b), .val (.ref c), .unset, .unset, .unset, .unset]) K at_122 rfl rfl rfl ?_
        refine go_iload (pc' := 126) K at_124 rfl rfl ?_
        refine go_if_le_f (pc' := 129) K at_126 (by decide) rfl ?_
        refine go_aload (pc' := 131) K at_129 rfl rfl rfl ?_
        refine go_iconst (pc' := 132) (v := 0) K at_131 rfl rfl ?_
        refine go_iloadN (pc' := 133) K at_132 rfl rfl ?_
        refine go_iastore (pc' := 134) (i := 1) (m := 0) (ds' := [(b, ia [m0, m1]), (c, ia [p2])]) K rfl at_133 (by decide) (by simp) rfl rfl ?_
        refine go_iload (pc' := 136) K at_134 rfl rfl ?_
        refine go_iconst (pc' := 137) (v := 1) K at_136 rfl rfl ?_
        refine go_ic_le_t (pc' := 145) K at_137 (by decide) (by decide) (by decide) ?_
        refine go_iload (pc' := 147) K at_145 rfl rfl ?_
        refine go_iconst (pc' := 148) (v := 2) K at_147 rfl rfl ?_
        refine go_ic_le_t (pc' := 157) K at_148 (by decide) (by decide) (by decide) ?_
        refine go_iload (pc' := 159) K at_157 rfl rfl ?_
        refine go_iconst (pc' := 160) (v := 3) K at_159 rfl rfl ?_
        refine go_ic_le_t (pc' := 169) K at_160 (by decide) (by decide) (by decide) ?_
        exact J169 c _ _ (by simp) (own_avk1 p2 p3 p4 p5)
      ·
        refine go_iload (pc' := 120) K at_118 rfl rfl ?_
        refine go_newI (pc' := 122) (m := 2) (cap := 4) K (hw _ (List.mem_of_getElem? (i := 0) rfl)) at_120 (by decide) (by decide) (by decide) (by decide) (by decide) rfl (fun c hgc hlc => ?_)
        show Go W Q [(b, ia [m0, m1]), (c, ia [0, 0])] 2 6 122 #[.val (.int p0), .val (.int p1), .val (.int p2), .val (.int p3), .val (.int p4), .val (.int p5), .val (.int 2), .val (.int d1), .val (.int d2), .val (.int 2), .val (.int bg), .val (.int m0), .val (.int m1), .val (.int m2), .val (.ref b), .unset, .unset, .unset, .unset, .unset] [(.ref c)]
        refine go_astore (pc' := 124) (Ls' := #[.val (.int p0), .val (.int p1), .val (.int p2), .val (.int p3), .val (.int p4), .val (.int p5), .val (.int 2), .val (.int d1), .val (.int d2), .val (.int 2), .val (.int bg), .val (.int m0), .val (.int m1), .val (.int m2), .val (.ref b), .val (.ref c), .unset, .unset, .unset, .unset]) K at_122 rfl rfl rfl ?_
        refine go_iload (pc' := 126) K at_124 rfl rfl ?_
        refine go_if_le_f (pc' := 129) K at_126 (by decide) rfl ?_
        refine go_aload (pc' := 131) K at_129 rfl rfl rfl ?_
        refine go_iconst (pc' := 132) (v := 0) K at_131 rfl rfl ?_
        refine go_iloadN (pc' := 133) K at_132 rfl rfl ?_
        refine go_iastore (pc' := 134) (i := 1) (m := 0) (ds' := [(b, ia [m0, m1]), (c, ia [p2, 0])]) K rfl at_133 (by decide) (by simp) rfl rfl ?_
        refine go_iload (pc' := 136) K at_134 rfl rfl ?_
        refine go_iconst (pc' := 137) (v := 1) K at_136 rfl rfl ?_
        refine go_ic_le_f (pc' := 140) K at_137 (by decide) rfl ?_
        refine go_aload (pc' := 142) K at_140 rfl rfl rfl ?_
        refine go_iconst (pc' := 143) (v := 1) K at_142 rfl rfl ?_
        refine go_iloadN (pc' := 144) K at_143 rfl rfl ?_
        refine go_iastore (pc' := 145) (i := 1) (m := 1) (ds' := [(b, ia [m0, m1]), (c, ia [p2, p3])]) K rfl at_144 (by decide) (by simp) rfl rfl ?_
        refine go_iload (pc' := 147) K at_145 rfl rfl ?_
        refine go_iconst (pc' := 148) (v := 2) K at_147 rfl rfl ?_
        refine go_ic_le_t (pc' := 157) K at_148 (by decide) (by decide) (by decide) ?_
        refine go_iload (pc' := 159) K at_157 rfl rfl ?_
        refine go_iconst (pc' := 160) (v := 3) K at_159 rfl rfl ?_
        refine go_ic_le_t (pc' := 169) K at_160 (by decide) (by decide) (by decide) ?_
        exact J169 c _ _ (by simp) (own_avk2 p2 p3 p4 p5)
      ·
        refine go_iload (pc' := 120) K at_118 rfl rfl ?_
        refine go_newI (pc' := 122) (m := 3) (cap := 4) K (hw _ (List.mem_of_getElem? (i := 0) rfl)) at_120 (by decide) (by decide) (by decide) (by decide) (by decide) rfl (fun c hgc hlc => ?_)
        show Go W Q [(b, ia [m0, m1]), (c, ia [0, 0, 0])] 2 6 122 #[.val (.int p0), .val (.int p1), .val (.int p2), .val (.int p3), .val (.int p4), .val (.int p5), .val (.int 2), .val (.int d1), .val (.int d2), .val (.int 3), .val (.int bg), .val (.int m0), .val (.int m1), .val (.int m2), .val (.ref b), .unset, .unset, .unset, .unset, .unset] [(.ref c)]
        refine go_astore (pc' := 124) (Ls' := #[.val (.int p0), .val (.int p1), .val (.int p2), .val (.int p3), .val (.int p4), .val (.int p5), .val (.int 2), .val (.int d1), .val (.int d2), .val (.int 3), .val (.int bg), .val (.int m0), .val (.int m1), .val (.int m2), .val (.ref b), .val (.ref c), .unset, .unset, .unset, .unset]) K at_122 rfl rfl rfl ?_
        refine go_iload (pc' := 126) K at_124 rfl rfl ?_
        refine go_if_le_f (pc' := 129) K at_126 (by decide) rfl ?_
        refine go_aload (pc' := 131) K at_129 rfl rfl rfl ?_
        refine go_iconst (pc' := 132) (v := 0) K at_131 rfl rfl ?_
        refine go_iloadN (pc' := 133) K at_132 rfl rfl ?_
        refine go_iastore (pc' := 134) (i := 1) (m := 0) (ds' := [(b, ia [m0, m1]), (c, ia [p2, 0, 0])]) K rfl at_133 (by decide) (by simp) rfl rfl ?_
        refine go_iload (pc' := 136) K at_134 rfl rfl ?_
        refine go_iconst (pc' := 137) (v := 1) K at_136 rfl rfl ?_
        refine go_ic_le_f (pc' := 140) K at_137 (by decide) rfl ?_
        refine go_aload (pc' := 142) K at_140 rfl rfl rfl ?_
        refine go_iconst (pc' := 143) (v := 1) K at_142 rfl rfl ?_
        refine go_iloadN (pc' := 144) K at_143 rfl rfl ?_
        refine go_iastore (pc' := 145) (i := 1) (m := 1) (ds' := [(b, ia [m0, m1]), (c, ia [p2, p3, 0])]) K rfl at_144 (by decide) (by simp) rfl rfl ?_
        refine go_iload (pc' := 147) K at_145 rfl rfl ?_
        refine go_iconst (pc' := 148) (v := 2) K at_147 rfl rfl ?_
        refine go_ic_le_f (pc' := 151) K at_148 (by decide) rfl ?_
        refine go_aload (pc' := 153) K at_151 rfl rfl rfl ?_
        refine go_iconst (pc' := 154) (v := 2) K at_153 rfl rfl ?_
        refine go_iload (pc' := 156) K at_154 rfl rfl ?_
        refine go_iastore (pc' := 157) (i := 1) (m := 2) (ds' := [(b, ia [m0, m1]), (c, ia [p2, p3, p4])]) K rfl at_156 (by decide) (by simp) rfl rfl ?_
        refine go_iload (pc' := 159) K at_157 rfl rfl ?_
        refine go_iconst (pc' := 160) (v := 3) K at_159 rfl rfl ?_
        refine go_ic_le_t (pc' := 169) K at_160 (by decide) (by decide) (by decide) ?_
        exact J169 c _ _ (by simp) (own_avk3 p2 p3 p4 p5)
      ·
        refine go_iload (pc' := 120) K at_118 rfl rfl ?_
        refine go_newI (pc' := 122) (m := 4) (cap := 4) K (hw _ (List.mem_of_getElem? (i := 0) rfl)) at_120 (by decide) (by decide) (by decide) (by decide) (by decide) rfl (fun c hgc hlc => ?_)
        show Go W Q [(b, ia [m0, m1]), (c, ia [0, 0, 0, 0])] 2 6 122 #[.val (.int p0), .val (.int p1), .val (.int p2), .val (.int p3), .val (.int p4), .val (.int p5), .val (.int 2), .val (.int d1), .val (.int d2), .val (.int 4), .val (.int bg), .val (.int m0), .val (.int m1), .val (.int m2), .val (.ref b), .unset, .unset, .unset, .unset, .unset] [(.ref c)]
        refine go_astore (pc' := 124) (Ls' := #[.val (.int p0), .val (.int p1), .val (.int p2), .val (.int p3), .val (.int p4), .val (.int p5), .val (.int 2), .val (.int d1), .val (.int d2), .val (.int 4), .val (.int bg), .val (.int m0), .val (.int m1), .val (.int m2), .val (.ref b), .val (.ref c), .unset, .unset, .unset, .unset]) K at_122 rfl rfl rfl ?_
        refine go_iload (pc' := 126) K at_124 rfl rfl ?_
        refine go_if_le_f (pc' := 129) K at_126 (by decide) rfl ?_
        refine go_aload (pc' := 131) K at_129 rfl rfl rfl ?_
        refine go_iconst (pc' := 132) (v := 0) K at_131 rfl rfl ?_
        refine go_iloadN (pc' := 133) K at_132 rfl rfl ?_
        refine go_iastore (pc' := 134) (i := 1) (m := 0) (ds' := [(b, ia [m0, m1]), (c, ia [p2, 0, 0, 0])]) K rfl at_133 (by decide) (by simp) rfl rfl ?_
        refine go_iload (pc' := 136) K at_134 rfl rfl ?_
        refine go_iconst (pc' := 137) (v := 1) K at_136 rfl rfl ?_
        refine go_ic_le_f (pc' := 140) K at_137 (by decide) rfl ?_
        refine go_aload (pc' := 142) K at_140 rfl rfl rfl ?_
        refine go_iconst (pc' := 143) (v := 1) K at_142 rfl rfl ?_
        refine go_iloadN (pc' := 144) K at_143 rfl rfl ?_
        refine go_iastore (pc' := 145) (i := 1) (m := 1) (ds' := [(b, ia [m0, m1]), (c, ia [p2, p3, 0, 0])]) K rfl at_144 (by decide) (by simp) rfl rfl ?_
        refine go_iload (pc' := 147) K at_145 rfl rfl ?_
        refine go_iconst (pc' := 148) (v := 2) K at_147 rfl rfl ?_
        refine go_ic_le_f (pc' := 151) K at_148 (by decide) rfl ?_
        refine go_aload (pc' := 153) K at_151 rfl rfl rfl ?_
        refine go_iconst (pc' := 154) (v := 2) K at_153 rfl rfl ?_
        refine go_iload (pc' := 156) K at_154 rfl rfl ?_
        refine go_iastore (pc' := 157) (i := 1) (m := 2) (ds' := [(b, ia [m0, m1]), (c, ia [p2, p3, p4, 0])]) K rfl at_156 (by decide) (by simp) rfl rfl ?_
        refine go_iload (pc' := 159) K at_157 rfl rfl ?_
        refine go_iconst (pc' := 160) (v := 3) K at_159 rfl rfl ?_
        refine go_ic_le_f (pc' := 163) K at_160 (by decide) rfl ?_
        refine go_aload (pc' := 165) K at_163 rfl rfl rfl ?_
        refine go_iconst (pc' := 166) (v := 3) K at_165 rfl rfl ?_
        refine go_iload (pc' := 168) K at_166 rfl rfl ?_
        refine go_iastore (pc' := 169) (i := 1) (m := 3) (ds' := [(b, ia [m0, m1]), (c, ia [p2, p3, p4, p5])]) K rfl at_168 (by decide) (by simp) rfl rfl ?_
        exact J169 c _ _ (by simp) (own_avk4 p2 p3 p4 p5)
      
    ·
      refine go_iload (pc' := 79) K at_77 rfl rfl ?_
      refine go_newI (pc' := 81) (m := 3) (cap := 3) K (hw _ (List.mem_of_getElem? (i := 0) rfl)) at_79 (by decide) (by decide) (by decide) (by decide) (by decide) rfl (fun b hgb hlb => ?_)
      show Go W Q [(b, ia [0, 0, 0])] 1 3 81 #[.val (.int p0), .val (.int p1), .val (.int p2), .val (.int p3), .val (.int p4), .val (.int p5), .val (.int 3), .val (.int d1), .val (.int d2), .val (.int al0), .val (.int bg), .val (.int m0), .val (.int m1), .val (.int m2), .unset, .unset, .unset, .unset, .unset, .unset] [(.ref b)]
      refine go_astore (pc' := 83) (Ls' := #[.val (.int p0), .val (.int p1), .val (.int p2), .val (.int p3), .val (.int p4), .val (.int p5), .val (.int 3), .val (.int d1), .val (.int d2), .val (.int al0), .val (.int bg), .val (.int m0), .val (.int m1), .val (.int m2), .val (.ref b), .unset, .unset, .unset, .unset, .unset]) K at_81 rfl rfl rfl ?_
      refine go_iload (pc' := 85) K at_83 rfl rfl ?_
      refine go_if_le_f (pc' := 88) K at_85 (by decide) rfl ?_
      refine go_aload (pc' := 90) K at_88 rfl rfl rfl ?_
      refine go_iconst (pc' := 91) (v := 0) K at_90 rfl rfl ?_
      refine go_iload (pc' := 93) K at_91 rfl rfl ?_
      refine go_iastore (pc' := 94) (i := 0) (m := 0) (ds' := [(b, ia [m0, 0, 0])]) K rfl at_93 (by decide) (by simp) rfl rfl ?_
      refine go_iload (pc' := 96) K at_94 rfl rfl ?_
      refine go_iconst (pc' := 97) (v := 1) K at_96 rfl rfl ?_
      refine go_ic_le_f (pc' := 100) K at_97 (by decide) rfl ?_
      refine go_aload (pc' := 102) K at_100 rfl rfl rfl ?_
      refine go_iconst (pc' := 103) (v := 1) K at_102 rfl rfl ?_
      refine go_iload (pc' := 105) K at_103 rfl rfl ?_
      refine go_iastore (pc' := 106) (i := 0) (m := 1) (ds' := [(b, ia [m0, m1, 0])]) K rfl at_105 (by decide) (by simp) rfl rfl ?_
      refine go_iload (pc' := 108) K at_106 rfl rfl ?_
      refine go_iconst (pc' := 109) (v := 2) K at_108 rfl rfl ?_
      refine go_ic_le_f (pc' := 112) K at_109 (by decide) rfl ?_
      refine go_aload (pc' := 114) K at_112 rfl rfl rfl ?_
      refine go_iconst (pc' := 115) (v := 2) K at_114 rfl rfl ?_
      refine go_iload (pc' := 117) K at_115 rfl rfl ?_
      refine go_iastore (pc' := 118) (i := 0) (m := 2) (ds' := [(b, ia [m0, m1, m2])]) K rfl at_117 (by decide) (by simp) rfl rfl ?_
      have J169 : ∀ (c : Nat) (ys : List Int32) (al : Int32), ys.length ≤ 4 → (∀ v : Int32, 0 ≤ v.toInt → own_avl v al p2 p3 p4 p5 = own_av ys v) → Go W Q [(b, ia [m0, m1, m2]), (c, ia ys)] 2 7 169 #[.val (.int p0), .val (.int p1), .val (.int p2), .val (.int p3), .val (.int p4), .val (.int p5), .val (.int 3), .val (.int d1), .val (.int d2), .val (.int al), .val (.int bg), .val (.int m0), .val (.int m1), .val (.int m2), .val (.ref b), .val (.ref c), .unset, .unset, .unset, .unset] [] := by
        intro c ys al hy4 hys
        refine go_iload (pc' := 171) K at_169 rfl rfl ?_
        refine go_iconst (pc' := 172) (v := 1) K at_171 rfl rfl ?_
        refine go_ic_lt_f (pc' := 175) K at_172 (by decide) rfl ?_
        refine go_iload (pc' := 177) K at_175 rfl rfl ?_
        refine go_iload (pc' := 179) K at_177 rfl rfl ?_
        refine go_iload (pc' := 181) K at_179 rfl rfl ?_
        refine go_iload (pc' := 183) K at_181 rfl rfl ?_
        refine go_iload (pc' := 185) K at_183 rfl rfl ?_
        refine go_static (pc' := 188) (Wd := 0) (y' := ⟨"com/example/bridge/bridge/MultisetsFitsPinLaw", "mult", "(IIIII)I"⟩) (argsL := [(.int m0), (.int 3), (.int m0), (.int m1), (.int m2)]) (rest := []) K (hw _ (List.mem_of_getElem? (i := 5) rfl)) (hw _ (List.mem_of_getElem? (i := 6) rfl)) (hw _ (List.mem_of_getElem? (i := 7) rfl)) (hw _ (List.mem_of_getElem? (i := 8) rfl)) at_185 (ct_mult3 l Z h0 a0 hw _ m0 m0 m1 m2) (lenOf pd__IIIII_I rfl) rfl rfl (by decide) rfl (by decide) (by decide) (by decide) (by decide) rfl ?_
        rintro _ ds' ⟨r0, rfl, hr0, hds⟩
        rw [hds]
        show Go W Q [(b, ia [m0, m1, m2]), (c, ia ys)] 2 7 188 #[.val (.int p0), .val (.int p1), .val (.int p2), .val (.int p3), .val (.int p4), .val (.int p5), .val (.int 3), .val (.int d1), .val (.int d2), .val (.int al), .val (.int bg), .val (.int m0), .val (.int m1), .val (.int m2), .val (.ref b), .val (.ref c), .unset, .unset, .unset, .unset] [(.int r0)]
        refine go_iload (pc' := 190) K at_188 rfl rfl ?_
        refine go_iload (pc' := 192) K at_190 rfl rfl ?_
        refine go_iloadN (pc' := 193) K at_192 rfl rfl ?_
        refine go_iloadN (pc' := 194) K at_193 rfl rfl ?_
        refine go_iload (pc' := 196) K at_194 rfl rfl ?_
        refine go_iload (pc' := 198) K at_196 rfl rfl ?_
        refine go_static (pc' := 201) (Wd := 1) (y' := ⟨"com/example/bridge/bridge/MultisetsFitsPinLaw", "avail", "(IIIIII)I"⟩) (argsL := [(.int m0), (.int al), (.int p2), (.int p3), (.int p4), (.int p5)]) (rest := [(.int r0)]) K (hw _ (List.mem_of_getElem? (i := 9) rfl)) (hw _ (List.mem_of_getElem? (i := 10) rfl)) (hw _ (List.mem_of_getElem? (i := 7) rfl)) (hw _ (List.mem_of_getElem? (i := 11) rfl)) at_198 (ct_avail l Z h0 a0 hw _ m0 al p2 p3 p4 p5) (lenOf pd__IIIIII_I rfl) rfl rfl (by decide) rfl (by decide) (by decide) (by decide) (by decide) rfl ?_
        rintro _ ds' ⟨rfl, hds⟩
        rw [hds, hys m0 (by omega)]
        show Go W Q [(b, ia [m0, m1, m2]), (c, ia ys)] 2 7 201 #[.val (.int p0), .val (.int p1), .val (.int p2), .val (.int p3), .val (.int p4), .val (.int p5), .val (.int 3), .val (.int d1), .val (.int d2), .val (.int al), .val (.int bg), .val (.int m0), .val (.int m1), .val (.int m2), .val (.ref b), .val (.ref c), .unset, .unset, .unset, .unset] [(.int (own_av ys m0)), (.int r0)]
        refine go_ic_gt (pt := 208) (pc' := 204) K at_201 (by decide) (by decide) rfl (fun (o0 : (own_av ys m0).toInt < r0.toInt) => ?_) (fun (o0 : r0.toInt ≤ (own_av ys m0).toInt) => ?_)
        ·
          refine go_iconst (pc' := 209) (v := 0) K at_208 rfl rfl ?_
          refine go_istore (pc' := 211) (Ls' := #[.val (.int p0), .val (.int p1), .val (.int p2), .val (.int p3), .val (.int p4), .val (.int p5), .val (.int 3), .val (.int d1), .val (.int d2), .val (.int al), .val (.int bg), .val (.int m0), .val (.int m1), .val (.int m2), .val (.ref b), .val (.ref c), .val (.int 0), .unset, .unset, .unset]) K at_209 rfl rfl ?_
          refine go_iload (pc' := 213) K at_211 rfl rfl ?_
          refine go_iconst (pc' := 214) (v := 2) K at_213 rfl rfl ?_
          refine go_ic_lt_f (pc' := 217) K at_214 (by decide) rfl ?_
          refine go_iload (pc' := 219) K at_217 rfl rfl ?_
          refine go_iload (pc' := 221) K at_219 rfl rfl ?_
          refine go_iload (pc' := 223) K at_221 rfl rfl ?_
          refine go_iload (pc' := 225) K at_223 rfl rfl ?_
          refine go_iload (pc' := 227) K at_225 rfl rfl ?_
          refine go_static (pc' := 230) (Wd := 0) (y' := ⟨"com/example/bridge/bridge/MultisetsFitsPinLaw", "mult", "(IIIII)I"⟩) (argsL := [(.int m1), (.int 3), (.int m0), (.int m1), (.int m2)]) (rest := []) K (hw _ (List.mem_of_getElem? (i := 5) rfl)) (hw _ (List.mem_of_getElem? (i := 6) rfl)) (hw _ (List.mem_of_getElem? (i := 7) rfl)) (hw _ (List.mem_of_getElem? (i := 8) rfl)) at_227 (ct_mult3 l Z h0 a0 hw _ m1 m0 m1 m2) (lenOf pd__IIIII_I rfl) rfl rfl (by decide) rfl (by decide) (by decide) (by decide) (by decide) rfl ?_
          rintro _ ds' ⟨r1, rfl, hr1, hds⟩
          rw [hds]
          show Go W Q [(b, ia [m0, m1, m2]), (c, ia ys)] 2 7 230 #[.val (.int p0), .val (.int p1), .val (.int p2), .val (.int p3), .val (.int p4), .val (.int p5), .val (.int 3), .val (.int d1), .val (.int d2), .val (.int al), .val (.int bg), .val (.int m0), .val (.int m1), .val (.int m2), .val (.ref b), .val (.ref c), .val (.int 0), .unset, .unset, .unset] [(.int r1)]
          refine go_iload (pc' := 232) K at_230 rfl rfl ?_
          refine go_iload (pc' := 234) K at_232 rfl rfl ?_
          refine go_iloadN (pc' := 235) K at_234 rfl rfl ?_
          refine go_iloadN (pc' := 236) K at_235 rfl rfl ?_
          refine go_iload (pc' := 238) K at_236 rfl rfl ?_
          refine go_iload (pc' := 240) K at_238 rfl rfl ?_
          refine go_static (pc' := 243) (Wd := 1) (y' := ⟨"com/example/bridge/bridge/MultisetsFitsPinLaw", "avail", "(IIIIII)I"⟩) (argsL := [(.int m1), (.int al), (.int p2), (.int p3), (.int p4), (.int p5)]) (rest := [(.int r1)]) K (hw _ (List.mem_of_getElem? (i := 9) rfl)) (hw _ (List.mem_of_getElem? (i := 10) rfl)) (hw _ (List.mem_of_getElem? (i := 7) rfl)) (hw _ (List.mem_of_getElem? (i := 11) rfl)) at_240 (ct_avail l Z h0 a0 hw _ m1 al p2 p3 p4 p5) (lenOf pd__IIIIII_I rfl) rfl rfl (by decide) rfl (by decide) (by decide) (by decide) (by decide) rfl ?_
          rintro _ ds' ⟨rfl, hds⟩
          rw [hds, hys m1 (by omega)]
          show Go W Q [(b, ia [m0, m1, m2]), (c, ia ys)] 2 7 243 #[.val (.int p0), .val (.int p1), .val (.int p2), .val (.int p3), .val (.int p4), .val (.int p5), .val (.int 3), .val (.int d1), .val (.int d2), .val (.int al), .val (.int bg), .val (.int m0), .val (.int m1), .val (.int m2), .val (.ref b), .val (.ref c), .val (.int 0), .unset, .unset, .unset] [(.int (own_av ys m1)), (.int r1)]
          refine go_ic_gt (pt := 250) (pc' := 246) K at_243 (by decide) (by decide) rfl (fun (o1 : (own_av ys m1).toInt < r1.toInt) => ?_) (fun (o1 : r1.toInt ≤ (own_av ys m1).toInt) => ?_)
          ·
            refine go_iconst (pc' := 251) (v := 0) K at_250 rfl rfl ?_
            refine go_istore (pc' := 253) (Ls' := #[.val (.int p0), .val (.int p1), .val (.int p2), .val (.int p3), .val (.int p4), .val (.int p5), .val (.int 3), .val (.int d1), .val (.int d2), .val (.int al), .val (.int bg), .val (.int m0), .val (.int m1), .val (.int m2), .val (.ref b), .val (.ref c), .val (.int 0), .val (.int 0), .unset, .unset]) K at_251 rfl rfl ?_
            refine go_iload (pc' := 255) K at_253 rfl rfl ?_
            refine go_iconst (pc' := 256) (v := 3) K at_255 rfl rfl ?_
            refine go_ic_lt_f (pc' := 259) K at_256 (by decide) rfl ?_
            refine go_iload (pc' := 261) K at_259 rfl rfl ?_
            refine go_iload (pc' := 263) K at_261 rfl rfl ?_
            refine go_iload (pc' := 265) K at_263 rfl rfl ?_
            refine go_iload (pc' := 267) K at_265 rfl rfl ?_
            refine go_iload (pc' := 269) K at_267 rfl rfl ?_
            refine go_static (pc' := 272) (Wd := 0) (y' := ⟨"com/example/bridge/bridge/MultisetsFitsPinLaw", "mult", "(IIIII)I"⟩) (argsL := [(.int m2), (.int 3), (.int m0), (.int m1), (.int m2)]) (rest := []) K (hw _ (List.mem_of_getElem? (i := 5) rfl)) (hw _ (List.mem_of_getElem? (i := 6) rfl)) (hw _ (List.mem_of_getElem? (i := 7) rfl)) (hw _ (List.mem_of_getElem? (i := 8) rfl)) at_269 (ct_mult3 l Z h0 a0 hw _ m2 m0 m1 m2) (lenOf pd__IIIII_I rfl) rfl rfl (by decide) rfl (by decide) (by decide) (by decide) (by decide) rfl ?_
            rintro _ ds' ⟨r2, rfl, hr2, hds⟩
            rw [hds]
            show Go W Q [(b, ia [m0, m1, m2]), (c, ia ys)] 2 7 272 #[.val (.int p0), .val (.int p1), .val (.int p2), .val (.int p3), .val (.int p4), .val (.int p5), .val (.int 3), .val (.int d1), .val (.int d2), .val (.int al), .val (.int bg), .val (.int m0), .val (.int m1), .val (.int m2), .val (.ref b), .val (.ref c), .val (.int 0), .val (.int 0), .unset, .unset] [(.int r2)]
            refine go_iload (pc' := 274) K at_272 rfl rfl ?_
            refine go_iload (pc' := 276) K at_274 rfl rfl ?_
            refine go_iloadN (pc' := 277) K at_276 rfl rfl ?_
            refine go_iloadN (pc' := 278) K at_277 rfl rfl ?_
            refine go_iload (pc' := 280) K at_278 rfl rfl ?_
            refine go_iload (pc' := 282) K at_280 rfl rfl ?_
            refine go_static (pc' := 285) (Wd := 1) (y' := ⟨"com/example/bridge/bridge/MultisetsFitsPinLaw", "avail", "(IIIIII)I"⟩) (argsL := [(.int m2), (.int al), (.int p2), (.int p3), (.int p4), (.int p5)]) (rest := [(.int r2)]) K (hw _ (List.mem_of_getElem? (i := 9) rfl)) (hw _ (List.mem_of_getElem? (i := 10) rfl)) (hw _ (List.mem_of_getElem? (i := 7) rfl)) (hw _ (List.mem_of_getElem? (i := 11) rfl)) at_282 (ct_avail l Z h0 a0 hw _ m2 al p2 p3 p4 p5) (lenOf pd__IIIIII_I rfl) rfl rfl (by decide) rfl (by decide) (by decide) (by decide) (by decide) rfl ?_
            rintro _ ds' ⟨rfl, hds⟩
            rw [hds, hys m2 (by omega)]
            show Go W Q [(b, ia [m0, m1, m2]), (c, ia ys)] 2 7 285 #[.val (.int p0), .val (.int p1), .val (.int p2), .val (.int p3), .val (.int p4), .val (.int p5), .val (.int 3), .val (.int d1), .val (.int d2), .val (.int al), .val (.int bg), .val (.int m0), .val (.int m1), .val (.int m2), .val (.ref b), .val (.ref c), .val (.int 0), .val (.int 0), .unset, .unset] [(.int (own_av ys m2)), (.int r2)]
            refine go_ic_gt (pt := 292) (pc' := 288) K at_285 (by decide) (by decide) rfl (fun (o2 : (own_av ys m2).toInt < r2.toInt) => ?_) (fun (o2 : r2.toInt ≤ (own_av ys m2).toInt) => ?_)
            ·
              refine go_iconst (pc' := 293) (v := 0) K at_292 rfl rfl ?_
              refine go_istore (pc' := 295) (Ls' := #[.val (.int p0), .val (.int p1), .val (.int p2), .val (.int p3), .val (.int p4), .val (.int p5), .val (.int 3), .val (.int d1), .val (.int d2), .val (.int al), .val (.int bg), .val (.int m0), .val (.int m1), .val (.int m2), .val (.ref b), .val (.ref c), .val (.int 0), .val (.int 0), .val (.int 0), .unset]) K at_293 rfl rfl ?_
              refine go_iload (pc' := 297) K at_295 rfl rfl ?_
              refine go_if_eq_t (pc' := 314) K at_297 (by decide) (by decide) (by decide) ?_
              refine go_iconst (pc' := 315) (v := 0) K at_314 rfl rfl ?_
              refine go_istore (pc' := 317) (Ls' := #[.val (.int p0), .val (.int p1), .val (.int p2), .val (.int p3), .val (.int p4), .val (.int p5), .val (.int 3), .val (.int d1), .val (.int d2), .val (.int al), .val (.int bg), .val (.int m0), .val (.int m1), .val (.int m2), .val (.ref b), .val (.ref c), .val (.int 0), .val (.int 0), .val (.int 0), .val (.int 0)]) K at_315 rfl rfl ?_
              refine go_aload (pc' := 319) K at_317 rfl rfl rfl ?_
              refine go_aload (pc' := 321) K at_319 rfl rfl rfl ?_
              refine go_static (pc' := 324) (Wd := 0) (y' := ⟨"com/example/bridge/bridge/Multisets", "fits", "([I[I)Z"⟩) (argsL := [(.ref b), (.ref c)]) (rest := []) K (hw _ (List.mem_of_getElem? (i := 1) rfl)) (hw _ (List.mem_of_getElem? (i := 2) rfl)) (hw _ (List.mem_of_getElem? (i := 3) rfl)) (hw _ (List.mem_of_getElem? (i := 4) rfl)) at_321 (ct_fits3 l Z h0 a0 hw _ 0 1 b c m0 m1 m2 ys rfl rfl hy4 (by omega) (by omega) (by omega) (by omega) (by omega)) (lenOf pd___I_I_Z rfl) rfl rfl (by decide) rfl (by decide) (by decide) (by decide) (by decide) rfl ?_
              rintro _ ds' ⟨rfl, hds⟩
              rw [hds]
              show Go W Q [(b, ia [m0, m1, m2]), (c, ia ys)] 2 7 324 #[.val (.int p0), .val (.int p1), .val (.int p2), .val (.int p3), .val (.int p4), .val (.int p5), .val (.int 3), .val (.int d1), .val (.int d2), .val (.int al), .val (.int bg), .val (.int m0), .val (.int m1), .val (.int m2), .val (.ref b), .val (.ref c), .val (.int 0), .val (.int 0), .val (.int 0), .val (.int 0)] [(.int (own_fit [m0, m1, m2] ys))]
              refine go_iload (pc' := 326) K at_324 rfl rfl ?_
              refine go_ic_ne_f (pc' := 329) K at_326 (own_fit_f (m := m0) (by simp) (by omega)) rfl ?_
              refine go_iconst (pc' := 330) (v := 1) K at_329 rfl rfl ?_
              refine go_goto (pc' := 334) K at_330 (by decide) (by decide) ?_
              exact go_zret K at_334 (by decide) (by decide) (Or.inr rfl) (by subst hQ; rfl)
            ·
              refine go_iconst (pc' := 289) (v := 1) K at_288 rfl rfl ?_
              refine go_goto (pc' := 293) K at_289 (by decide) (by decide) ?_
              refine go_istore (pc' := 295) (Ls' := #[.val (.int p0), .val (.int p1), .val (.int p2), .val (.int p3), .val (.int p4), .val (.int p5), .val (.int 3), .val (.int d1), .val (.int d2), .val (.int al), .val (.int bg), .val (.int m0), .val (.int m1), .val (.int m2), .val (.ref b), .val (.ref c), .val (.int 0), .val (.int 0), .val (.int 1), .unset]) K at_293 rfl rfl ?_
              refine go_iload (pc' := 297) K at_295 rfl rfl ?_
              refine go_if_eq_t (pc' := 314) K at_297 (by decide) (by decide) (by decide) ?_
              refine go_iconst (pc' := 315) (v := 0) K at_314 rfl rfl ?_
              refine go_istore (pc' := 317) (Ls' := #[.val (.int p0), .val (.int p1), .val (.int p2), .val (.int p3), .val (.int p4), .val (.int p5), .val (.int 3), .val (.int d1), .val (.int d2), .val (.int al), .val (.int bg), .val (.int m0), .val (.int m1), .val (.int m2), .val (.ref b), .val (.ref c), .val (.int 0), .val (.int 0), .val (.int 1), .val (.int 0)]) K at_315 rfl rfl ?_
              refine go_aload (pc' := 319) K at_317 rfl rfl rfl ?_
              refine go_aload (pc' := 321) K at_319 rfl rfl rfl ?_
              refine go_static (pc' := 324) (Wd := 0) (y' := ⟨"com/example/bridge/bridge/Multisets", "fits", "([I[I)Z"⟩) (argsL := [(.ref b), (.ref c)]) (rest := []) K (hw _ (List.mem_of_getElem? (i := 1) rfl)) (hw _ (List.mem_of_getElem? (i := 2) rfl)) (hw _ (List.mem_of_getElem? (i := 3) rfl)) (hw _ (List.mem_of_getElem? (i := 4) rfl)) at_321 (ct_fits3 l Z h0 a0 hw _ 0 1 b c m0 m1 m2 ys rfl rfl hy4 (by omega) (by omega) (by omega) (by omega) (by omega)) (lenOf pd___I_I_Z rfl) rfl rfl (by decide) rfl (by decide) (by decide) (by decide) (by decide) rfl ?_
              rintro _ ds' ⟨rfl, hds⟩
              rw [hds]
              show Go W Q [(b, ia [m0, m1, m2]), (c, ia ys)] 2 7 324 #[.val (.int p0), .val (.int p1), .val (.int p2), .val (.int p3), .val (.int p4), .val (.int p5), .val (.int 3), .val (.int d1), .val (.int d2), .val (.int al), .val (.int bg), .val (.int m0), .val (.int m1), .val (.int m2), .val (.ref b), .val (.ref c), .val (.int 0), .val (.int 0), .val (.int 1), .val (.int 0)] [(.int (own_fit [m0, m1, m2] ys))]
              refine go_iload (pc' := 326) K at_324 rfl rfl ?_
              refine go_ic_ne_f (pc' := 329) K at_326 (own_fit_f (m := m0) (by simp) (by omega)) rfl ?_
              refine go_iconst (pc' := 330) (v := 1) K at_329 rfl rfl ?_
              refine go_goto (pc' := 334) K at_330 (by decide) (by decide) ?_
              exact go_zret K at_334 (by decide) (by decide) (Or.inr rfl) (by subst hQ; rfl)
          ·
            refine go_iconst (pc' := 247) (v := 1) K at_246 rfl rfl ?_
            refine go_goto (pc' := 251) K at_247 (by decide) (by decide) ?_
            refine go_istore (pc' := 253) (Ls' := #[.val (.int p0), .val (.int p1), .val (.int p2), .val (.int p3), .val (.int p4), .val (.int p5), .val (.int 3), .val (.int d1), .val (.int d2), .val (.int al), .val (.int bg), .val (.int m0), .val (.int m1), .val (.int m2), .val (.ref b), .val (.ref c), .val (.int 0), .val (.int 1), .unset, .unset]) K at_251 rfl rfl ?_
            refine go_iload (pc' := 255) K at_253 rfl rfl ?_
            refine go_iconst (pc' := 256) (v := 3) K at_255 rfl rfl ?_
            refine go_ic_lt_f (pc' := 259) K at_256 (by decide) rfl ?_
            refine go_iload (pc' := 261) K at_259 rfl rfl ?_
            refine go_iload (pc' := 263) K at_261 rfl rfl ?_
            refine go_iload (pc' := 265) K at_263 rfl rfl ?_
            refine go_iload (pc' := 267) K at_265 rfl rfl ?_
            refine go_iload (pc' := 269) K at_267 rfl rfl ?_
            refine go_static (pc' := 272) (Wd := 0) (y' := ⟨"com/example/bridge/bridge/MultisetsFitsPinLaw", "mult", "(IIIII)I"⟩) (argsL := [(.int m2), (.int 3), (.int m0), (.int m1), (.int m2)]) (rest := []) K (hw _ (List.mem_of_getElem? (i := 5) rfl)) (hw _ (List.mem_of_getElem? (i := 6) rfl)) (hw _ (List.mem_of_getElem? (i := 7) rfl)) (hw _ (List.mem_of_getElem? (i := 8) rfl)) at_269 (ct_mult3 l Z h0 a0 hw _ m2 m0 m1 m2) (lenOf pd__IIIII_I rfl) rfl rfl (by decide) rfl (by decide) (by decide) (by decide) (by decide) rfl ?_
            rintro _ ds' ⟨r2, rfl, hr2, hds⟩
            rw [hds]
            show Go W Q [(b, ia [m0, m1, m2]), (c, ia ys)] 2 7 272 #[.val (.int p0), .val (.int p1), .val (.int p2), .val (.int p3), .val (.int p4), .val (.int p5), .val (.int 3), .val (.int d1), .val (.int d2), .val (.int al), .val (.int bg), .val (.int m0), .val (.int m1), .val (.int m2), .val (.ref b), .val (.ref c), .val (.int 0), .val (.int 1), .unset, .unset] [(.int r2)]
            refine go_iload (pc' := 274) K at_272 rfl rfl ?_
            refine go_iload (pc' := 276) K at_274 rfl rfl ?_
            refine go_iloadN (pc' := 277) K at_276 rfl rfl ?_
            refine go_iloadN (pc' := 278) K at_277 rfl rfl ?_
            refine go_iload (pc' := 280) K at_278 rfl rfl ?_
            refine go_iload (pc' := 282) K at_280 rfl rfl ?_
            refine go_static (pc' := 285) (Wd := 1) (y' := ⟨"com/example/bridge/bridge/MultisetsFitsPinLaw", "avail", "(IIIIII)I"⟩) (argsL := [(.int m2), (.int al), (.int p2), (.int p3), (.int p4), (.int p5)]) (rest := [(.int r2)]) K (hw _ (List.mem_of_getElem? (i := 9) rfl)) (hw _ (List.mem_of_getElem? (i := 10) rfl)) (hw _ (List.mem_of_getElem? (i := 7) rfl)) (hw _ (List.mem_of_getElem? (i := 11) rfl)) at_282 (ct_avail l Z h0 a0 hw _ m2 al p2 p3 p4 p5) (lenOf pd__IIIIII_I rfl) rfl rfl (by decide) rfl (by decide) (by decide) (by decide) (by decide) rfl ?_
            rintro _ ds' ⟨rfl, hds⟩
            rw [hds, hys m2 (by omega)]
            show Go W Q [(b, ia [m0, m1, m2]), (c, ia ys)] 2 7 285 #[.val (.int p0), .val (.int p1), .val (.int p2), .val (.int p3), .val (.int p4), .val (.int p5), .val (.int 3), .val (.int d1), .val (.int d2), .val (.int al), .val (.int bg), .val (.int m0), .val (.int m1), .val (.int m2), .val (.ref b), .val (.ref c), .val (.int 0), .val (.int 1), .unset, .unset] [(.int (own_av ys m2)), (.int r2)]
            refine go_ic_gt (pt := 292) (pc' := 288) K at_285 (by decide) (by decide) rfl (fun (o2 : (own_av ys m2).toInt < r2.toInt) => ?_) (fun (o2 : r2.toInt ≤ (own_av ys m2).toInt) => ?_)
            ·
              refine go_iconst (pc' := 293) (v := 0) K at_292 rfl rfl ?_
              refine go_istore (pc' := 295) (Ls' := #[.val (.int p0), .val (.int p1), .val (.int p2), .val (.int p3), .val (.int p4), .val (.int p5), .val (.int 3), .val (.int d1), .val (.int d2), .val (.int al), .val (.int bg), .val (.int m0), .val (.int m1), .val (.int m2), .val (.ref b), .val (.ref c), .val (.int 0), .val (.int 1), .val (.int 0), .unset]) K at_293 rfl rfl ?_
              refine go_iload (pc' := 297) K at_295 rfl rfl ?_
              refine go_if_eq_t (pc' := 314) K at_297 (by decide) (by decide) (by decide) ?_
              refine go_iconst (pc' := 315) (v := 0) K at_314 rfl rfl ?_
              refine go_istore (pc' := 317) (Ls' := #[.val (.int p0), .val (.int p1), .val (.int p2), .val (.int p3), .val (.int p4), .val (.int p5), .val (.int 3), .val (.int d1), .val (.int d2), .val (.int al), .val (.int bg), .val (.int m0), .val (.int m1), .val (.int m2), .val (.ref b), .val (.ref c), .val (.int 0), .val (.int 1), .val (.int 0), .val (.int 0)]) K at_315 rfl rfl ?_
              refine go_aload (pc' := 319) K at_317 rfl rfl rfl ?_
              refine go_aload (pc' := 321) K at_319 rfl rfl rfl ?_
              refine go_static (pc' := 324) (Wd := 0) (y' := ⟨"com/example/bridge/bridge/Multisets", "fits", "([I[I)Z"⟩) (argsL := [(.ref b), (.ref c)]) (rest := []) K (hw _ (List.mem_of_getElem? (i := 1) rfl)) (hw _ (List.mem_of_getElem? (i := 2) rfl)) (hw _ (List.mem_of_getElem? (i := 3) rfl)) (hw _ (List.mem_of_getElem? (i := 4) rfl)) at_321 (ct_fits3 l Z h0 a0 hw _ 0 1 b c m0 m1 m2 ys rfl rfl hy4 (by omega) (by omega) (by omega) (by omega) (by omega)) (lenOf pd___I_I_Z rfl) rfl rfl (by decide) rfl (by decide) (by decide) (by decide) (by decide) rfl ?_
              rintro _ ds' ⟨rfl, hds⟩
              rw [hds]
              show Go W Q [(b, ia [m0, m1, m2]), (c, ia ys)] 2 7 324 #[.val (.int p0), .val (.int p1), .val (.int p2), .val (.int p3), .val (.int p4), .val (.int p5), .val (.int 3), .val (.int d1), .val (.int d2), .val (.int al), .val (.int bg), .val (.int m0), .val (.int m1), .val (.int m2), .val (.ref b), .val (.ref c), .val (.int 0), .val (.int 1), .val (.int 0), .val (.int 0)] [(.int (own_fit [m0, m1, m2] ys))]
              refine go_iload (pc' := 326) K at_324 rfl rfl ?_
              refine go_ic_ne_f (pc' := 329) K at_326 (own_fit_f (m := m0) (by simp) (by omega)) rfl ?_
              refine go_iconst (pc' := 330) (v := 1) K at_329 rfl rfl ?_
              refine go_goto (pc' := 334) K at_330 (by decide) (by decide) ?_
              exact go_zret K at_334 (by decide) (by decide) (Or.inr rfl) (by subst hQ; rfl)
            ·
              refine go_iconst (pc' := 289) (v := 1) K at_288 rfl rfl ?_
              refine go_goto (pc' := 293) K at_289 (by decide) (by decide) ?_
              refine go_istore (pc' := 295) (Ls' := #[.val (.int p0), .val (.int p1), .val (.int p2), .val (.int p3), .val (.int p4), .val (.int p5), .val (.int 3), .val (.int d1), .val (.int d2), .val (.int al), .val (.int bg), .val (.int m0), .val (.int m1), .val (.int m2), .val (.ref b), .val (.ref c), .val (.int 0), .val (.int 1), .val (.int 1), .unset]) K at_293 rfl rfl ?_
              refine go_iload (pc' := 297) K at_295 rfl rfl ?_
              refine go_if_eq_t (pc' := 314) K at_297 (by decide) (by decide) (by decide) ?_
              refine go_iconst (pc' := 315) (v := 0) K at_314 rfl rfl ?_
              refine go_istore (pc' := 317) (Ls' := #[.val (.int p0), .val (.int p1), .val (.int p2), .val (.int p3), .val (.int p4), .val (.int p5), .val (.int 3), .val (.int d1), .val (.int d2), .val (.int al), .val (.int bg), .val (.int m0), .val (.int m1), .val (.int m2), .val (.ref b), .val (.ref c), .val (.int 0), .val (.int 1), .val (.int 1), .val (.int 0)]) K at_315 rfl rfl ?_
              refine go_aload (pc' := 319) K at_317 rfl rfl rfl ?_
              refine go_aload (pc' := 321) K at_319 rfl rfl rfl ?_
              refine go_static (pc' := 324) (Wd := 0) (y' := ⟨"com/example/bridge/bridge/Multisets", "fits", "([I[I)Z"⟩) (argsL := [(.ref b), (.ref c)]) (rest := []) K (hw _ (List.mem_of_getElem? (i := 1) rfl)) (hw _ (List.mem_of_getElem? (i := 2) rfl)) (hw _ (List.mem_of_getElem? (i := 3) rfl)) (hw _ (List.mem_of_getElem? (i := 4) rfl)) at_321 (ct_fits3 l Z h0 a0 hw _ 0 1 b c m0 m1 m2 ys rfl rfl hy4 (by omega) (by omega) (by omega) (by omega) (by omega)) (lenOf pd___I_I_Z rfl) rfl rfl (by decide) rfl (by decide) (by decide) (by decide) (by decide) rfl ?_
              rintro _ ds' ⟨rfl, hds⟩
              rw [hds]
              show Go W Q [(b, ia [m0, m1, m2]), (c, ia ys)] 2 7 324 #[.val (.int p0), .val (.int p1), .val (.int p2), .val (.int p3), .val (.int p4), .val (.int p5), .val (.int 3), .val (.int d1), .val (.int d2), .val (.int al), .val (.int bg), .val (.int m0), .val (.int m1), .val (.int m2), .val (.ref b), .val (.ref c), .val (.int 0), .val (.int 1), .val (.int 1), .val (.int 0)] [(.int (own_fit [m0, m1, m2] ys))]
              refine go_iload (pc' := 326) K at_324 rfl rfl ?_
              refine go_ic_ne_f (pc' := 329) K at_326 (own_fit_f (m := m0) (by simp) (by omega)) rfl ?_
              refine go_iconst (pc' := 330) (v := 1) K at_329 rfl rfl ?_
              refine go_goto (pc' := 334) K at_330 (by decide) (by decide) ?_
              exact go_zret K at_334 (by decide) (by decide) (Or.inr rfl) (by subst hQ; rfl)
        ·
          refine go_iconst (pc' := 205) (v := 1) K at_204 rfl rfl ?_
          refine go_goto (pc' := 209) K at_205 (by decide) (by decide) ?_
          refine go_istore (pc' := 211) (Ls' := #[.val (.int p0), .val (.int p1), .val (.int p2), .val (.int p3), .val (.int p4), .val (.int p5), .val (.int 3), .val (.int d1), .val (.int d2), .val (.int al), .val (.int bg), .val (.int m0), .val (.int m1), .val (.int m2), .val (.ref b), .val (.ref c), .val (.int 1), .unset, .unset, .unset]) K at_209 rfl rfl ?_
          refine go_iload (pc' := 213) K at_211 rfl rfl ?_
          refine go_iconst (pc' := 214) (v := 2) K at_213 rfl rfl ?_
          refine go_ic_lt_f (pc' := 217) K at_214 (by decide) rfl ?_
          refine go_iload (pc' := 219) K at_217 rfl rfl ?_
          refine go_iload (pc' := 221) K at_219 rfl rfl ?_
          refine go_iload (pc' := 223) K at_221 rfl rfl ?_
          refine go_iload (pc' := 225) K at_223 rfl rfl ?_
          refine go_iload (pc' := 227) K at_225 rfl rfl ?_
          refine go_static (pc' := 230) (Wd := 0) (y' := ⟨"com/example/bridge/bridge/MultisetsFitsPinLaw", "mult", "(IIIII)I"⟩) (argsL := [(.int m1), (.int 3), (.int m0), (.int m1), (.int m2)]) (rest := []) K (hw _ (List.mem_of_getElem? (i := 5) rfl)) (hw _ (List.mem_of_getElem? (i := 6) rfl)) (hw _ (List.mem_of_getElem? (i := 7) rfl)) (hw _ (List.mem_of_getElem? (i := 8) rfl)) at_227 (ct_mult3 l Z h0 a0 hw _ m1 m0 m1 m2) (lenOf pd__IIIII_I rfl) rfl rfl (by decide) rfl (by decide) (by decide) (by decide) (by decide) rfl ?_
          rintro _ ds' ⟨r1, rfl, hr1, hds⟩
          rw [hds]
          show Go W Q [(b, ia [m0, m1, m2]), (c, ia ys)] 2 7 230 #[.val (.int p0), .val (.int p1), .val (.int p2), .val (.int p3), .val (.int p4), .val (.int p5), .val (.int 3), .val (.int d1), .val (.int d2), .val (.int al), .val (.int bg), .val (.int m0), .val (.int m1), .val (.int m2), .val (.ref b), .val (.ref c), .val (.int 1), .unset, .unset, .unset] [(.int r1)]
          refine go_iload (pc' := 232) K at_230 rfl rfl ?_
          refine go_iload (pc' := 234) K at_232 rfl rfl ?_
          refine go_iloadN (pc' := 235) K at_234 rfl rfl ?_
          refine go_iloadN (pc' := 236) K at_235 rfl rfl ?_
          refine go_iload (pc' := 238) K at_236 rfl rfl ?_
          refine go_iload (pc' := 240) K at_238 rfl rfl ?_
          refine go_static (pc' := 243) (Wd := 1) (y' := ⟨"com/example/bridge/bridge/MultisetsFitsPinLaw", "avail", "(IIIIII)I"⟩) (argsL := [(.int m1), (.int al), (.int p2), (.int p3), (.int p4), (.int p5)]) (rest := [(.int r1)]) K (hw _ (List.mem_of_getElem? (i := 9) rfl)) (hw _ (List.mem_of_getElem? (i := 10) rfl)) (hw _ (List.mem_of_getElem? (i := 7) rfl)) (hw _ (List.mem_of_getElem? (i := 11) rfl)) at_240 (ct_avail l Z h0 a0 hw _ m1 al p2 p3 p4 p5) (lenOf pd__IIIIII_I rfl) rfl rfl (by decide) rfl (by decide) (by decide) (by decide) (by decide) rfl ?_
          rintro _ ds' ⟨rfl, hds⟩
          rw [hds, hys m1 (by omega)]
          show Go W Q [(b, ia [m0, m1, m2]), (c, ia ys)] 2 7 243 #[.val (.int p0), .val (.int p1), .val (.int p2), .val (.int p3), .val (.int p4), .val (.int p5), .val (.int 3), .val (.int d1), .val (.int d2), .val (.int al), .val (.int bg), .val (.int m0), .val (.int m1), .val (.int m2), .val (.ref b), .val (.ref c), .val (.int 1), .unset, .unset, .unset] [(.int (own_av ys m1)), (.int r1)]
          refine go_ic_gt (pt := 250) (pc' := 246) K at_243 (by decide) (by decide) rfl (fun (o1 : (own_av ys m1).toInt < r1.toInt) => ?_) (fun (o1 : r1.toInt ≤ (own_av ys m1).toInt) => ?_)
          ·
            refine go_iconst (pc' := 251) (v := 0) K at_250 rfl rfl ?_
            refine go_istore (pc' := 253) (Ls' := #[.val (.int p0), .val (.int p1), .val (.int p2), .val (.int p3), .val (.int p4), .val (.int p5), .val (.int 3), .val (.int d1), .val (.int d2), .val (.int al), .val (.int bg), .val (.int m0), .val (.int m1), .val (.int m2), .val (.ref b), .val (.ref c), .val (.int 1), .val (.int 0), .unset, .unset]) K at_251 rfl rfl ?_
            refine go_iload (pc' := 255) K at_253 rfl rfl ?_
            refine go_iconst (pc' := 256) (v := 3) K at_255 rfl rfl ?_
            refine go_ic_lt_f (pc' := 259) K at_256 (by decide) rfl ?_
            refine go_iload (pc' := 261) K at_259 rfl rfl ?_
            refine go_iload (pc' := 263) K at_261 rfl rfl ?_
            refine go_iload (pc' := 265) K at_263 rfl rfl ?_
            refine go_iload (pc' := 267) K at_265 rfl rfl ?_
            refine go_iload (pc' := 269) K at_267 rfl rfl ?_
            refine go_static (pc' := 272) (Wd := 0) (y' := ⟨"com/example/bridge/bridge/MultisetsFitsPinLaw", "mult", "(IIIII)I"⟩) (argsL := [(.int m2), (.int 3), (.int m0), (.int m1), (.int m2)]) (rest := []) K (hw _ (List.mem_of_getElem? (i := 5) rfl)) (hw _ (List.mem_of_getElem? (i := 6) rfl)) (hw _ (List.mem_of_getElem? (i := 7) rfl)) (hw _ (List.mem_of_getElem? (i := 8) rfl)) at_269 (ct_mult3 l Z h0 a0 hw _ m2 m0 m1 m2) (lenOf pd__IIIII_I rfl) rfl rfl (by decide) rfl (by decide) (by decide) (by decide) (by decide) rfl ?_
            rintro _ ds' ⟨r2, rfl, hr2, hds⟩
            rw [hds]
            show Go W Q [(b, ia [m0, m1, m2]), (c, ia ys)] 2 7 272 #[.val (.int p0), .val (.int p1), .val (.int p2), .val (.int p3), .val (.int p4), .val (.int p5), .val (.int 3), .val (.int d1), .val (.int d2), .val (.int al), .val (.int bg), .val (.int m0), .val (.int m1), .val (.int m2), .val (.ref b), .val (.ref c), .val (.int 1), .val (.int 0), .unset, .unset] [(.int r2)]
            refine go_iload (pc' := 274) K at_272 rfl rfl ?_
            refine go_iload (pc' := 276) K at_274 rfl rfl ?_
            refine go_iloadN (pc' := 277) K at_276 rfl rfl ?_
            refine go_iloadN (pc' := 278) K at_277 rfl rfl ?_
            refine go_iload (pc' := 280) K at_278 rfl rfl ?_
            refine go_iload (pc' := 282) K at_280 rfl rfl ?_
            refine go_static (pc' := 285) (Wd := 1) (y' := ⟨"com/example/bridge/bridge/MultisetsFitsPinLaw", "avail", "(IIIIII)I"⟩) (argsL := [(.int m2), (.int al), (.int p2), (.int p3), (.int p4), (.int p5)]) (rest := [(.int r2)]) K (hw _ (List.mem_of_getElem? (i := 9) rfl)) (hw _ (List.mem_of_getElem? (i := 10) rfl)) (hw _ (List.mem_of_getElem? (i := 7) rfl)) (hw _ (List.mem_of_getElem? (i := 11) rfl)) at_282 (ct_avail l Z h0 a0 hw _ m2 al p2 p3 p4 p5) (lenOf pd__IIIIII_I rfl) rfl rfl (by decide) rfl (by decide) (by decide) (by decide) (by decide) rfl ?_
            rintro _ ds' ⟨rfl, hds⟩
            rw [hds, hys m2 (by omega)]
            show Go W Q [(b, ia [m0, m1, m2]), (c, ia ys)] 2 7 285 #[.val (.int p0), .val (.int p1), .val (.int p2), .val (.int p3), .val (.int p4), .val (.int p5), .val (.int 3), .val (.int d1), .val (.int d2), .val (.int al), .val (.int bg), .val (.int m0), .val (.int m1), .val (.int m2), .val (.ref b), .val (.ref c), .val (.int 1), .val (.int 0), .unset, .unset] [(.int (own_av ys m2)), (.int r2)]
            refine go_ic_gt (pt := 292) (pc' := 288) K at_285 (by decide) (by decide) rfl (fun (o2 : (own_av ys m2).toInt < r2.toInt) => ?_) (fun (o2 : r2.toInt ≤ (own_av ys m2).toInt) => ?_)
            ·
              refine go_iconst (pc' := 293) (v := 0) K at_292 rfl rfl ?_
              refine go_istore (pc' := 295) (Ls' := #[.val (.int p0), .val (.int p1), .val (.int p2), .val (.int p3), .val (.int p4), .val (.int p5), .val (.int 3), .val (.int d1), .val (.int d2), .val (.int al), .val (.int bg), .val (.int m0), .val (.int m1), .val (.int m2), .val (.ref b), .val (.ref c), .val (.int 1), .val (.int 0), .val (.int 0), .unset]) K at_293 rfl rfl ?_
              refine go_iload (pc' := 297) K at_295 rfl rfl ?_
              refine go_if_eq_f (pc' := 300) K at_297 (by decide) rfl ?_
              refine go_iload (pc' := 302) K at_300 rfl rfl ?_
              refine go_if_eq_t (pc' := 314) K at_302 (by decide) (by decide) (by decide) ?_
              refine go_iconst (pc' := 315) (v := 0) K at_314 rfl rfl ?_
              refine go_istore (pc' := 317) (Ls' := #[.val (.int p0), .val (.int p1), .val (.int p2), .val (.int p3), .val (.int p4), .val (.int p5), .val (.int 3), .val (.int d1), .val (.int d2), .val (.int al), .val (.int bg), .val (.int m0), .val (.int m1), .val (.int m2), .val (.ref b), .val (.ref c), .val (.int 1), .val (.int 0), .val (.int 0), .val (.int 0)]) K at_315 rfl rfl ?_
              refine go_aload (pc' := 319) K at_317 rfl rfl rfl ?_
              refine go_aload (pc' := 321) K at_319 rfl rfl rfl ?_
              refine go_static (pc' := 324) (Wd := 0) (y' := ⟨"com/example/bridge/bridge/Multisets", "fits", "([I[I)Z"⟩) (argsL := [(.ref b), (.ref c)]) (rest := []) K (hw _ (List.mem_of_getElem? (i := 1) rfl)) (hw _ (List.mem_of_getElem? (i := 2) rfl)) (hw _ (List.mem_of_getElem? (i := 3) rfl)) (hw _ (List.mem_of_getElem? (i := 4) rfl)) at_321 (ct_fits3 l Z h0 a0 hw _ 0 1 b c m0 m1 m2 ys rfl rfl hy4 (by omega) (by omega) (by omega) (by omega) (by omega)) (lenOf pd___I_I_Z rfl) rfl rfl (by decide) rfl (by decide) (by decide) (by decide) (by decide) rfl ?_
              rintro _ ds' ⟨rfl, hds⟩
              rw [hds]
              show Go W Q [(b, ia [m0, m1, m2]), (c, ia ys)] 2 7 324 #[.val (.int p0), .val (.int p1), .val (.int p2), .val (.int p3), .val (.int p4), .val (.int p5), .val (.int 3), .val (.int d1), .val (.int d2), .val (.int al), .val (.int bg), .val (.int m0), .val (.int m1), .val (.int m2), .val (.ref b), .val (.ref c), .val (.int 1), .val (.int 0), .val (.int 0), .val (.int 0)] [(.int (own_fit [m0, m1, m2] ys))]
              refine go_iload (pc' := 326) K at_324 rfl rfl ?_
              refine go_ic_ne_f (pc' := 329) K at_326 (own_fit_f (m := m1) (by simp) (by omega)) rfl ?_
              refine go_iconst (pc' := 330) (v := 1) K at_329 rfl rfl ?_
              refine go_goto (pc' := 334) K at_330 (by decide) (by decide) ?_
              exact go_zret K at_334 (by decide) (by decide) (Or.inr rfl) (by subst hQ; rfl)
            ·
              refine go_iconst (pc' := 289) (v := 1) K at_288 rfl rfl ?_
              refine go_goto (pc' := 293) K at_289 (by decide) (by decide) ?_
              refine go_istore (pc' := 295) (Ls' := #[.val (.int p0), .val (.int p1), .val (.int p2), .val (.int p3), .val (.int p4), .val (.int p5), .val (.int 3), .val (.int d1), .val (.int d2), .val (.int al), .val (.int bg), .val (.int m0), .val (.int m1), .val (.int m2), .val (.ref b), .val (.ref c), .val (.int 1), .val (.int 0), .val (.int 1), .unset]) K at_293 rfl rfl ?_
              refine go_iload (pc' := 297) K at_295 rfl rfl ?_
              refine go_if_eq_f (pc' := 300) K at_297 (by decide) rfl ?_
              refine go_iload (pc' := 302) K at_300 rfl rfl ?_
              refine go_if_eq_t (pc' := 314) K at_302 (by decide) (by decide) (by decide) ?_
              refine go_iconst (pc' := 315) (v := 0) K at_314 rfl rfl ?_
              refine go_istore (pc' := 317) (Ls' := #[.val (.int p0), .val (.int p1), .val (.int p2), .val (.int p3), .val (.int p4), .val (.int p5), .val (.int 3), .val (.int d1), .val (.int d2), .val (.int al), .val (.int bg), .val (.int m0), .val (.int m1), .val (.int m2), .val (.ref b), .val (.ref c), .val (.int 1), .val (.int 0), .val (.int 1), .val (.int 0)]) K at_315 rfl rfl ?_
              refine go_aload (pc' := 319) K at_317 rfl rfl rfl ?_
              refine go_aload (pc' := 321) K at_319 rfl rfl rfl ?_
              refine go_static (pc' := 324) (Wd := 0) (y' := ⟨"com/example/bridge/bridge/Multisets", "fits", "([I[I)Z"⟩) (argsL := [(.ref b), (.ref c)]) (rest := []) K (hw _ (List.mem_of_getElem? (i := 1) rfl)) (hw _ (List.mem_of_getElem? (i := 2) rfl)) (hw _ (List.mem_of_getElem? (i := 3) rfl)) (hw _ (List.mem_of_getElem? (i := 4) rfl)) at_321 (ct_fits3 l Z h0 a0 hw _ 0 1 b c m0 m1 m2 ys rfl rfl hy4 (by omega) (by omega) (by omega) (by omega) (by omega)) (lenOf pd___I_I_Z rfl) rfl rfl (by decide) rfl (by decide) (by decide) (by decide) (by decide) rfl ?_
              rintro _ ds' ⟨rfl, hds⟩
              rw [hds]
              show Go W Q [(b, ia [m0, m1, m2]), (c, ia ys)] 2 7 324 #[.val (.int p0), .val (.int p1), .val (.int p2), .val (.int p3), .val (.int p4), .val (.int p5), .val (.int 3), .val (.int d1), .val (.int d2), .val (.int al), .val (.int bg), .val (.int m0), .val (.int m1), .val (.int m2), .val (.ref b), .val (.ref c), .val (.int 1), .val (.int 0), .val (.int 1), .val (.int 0)] [(.int (own_fit [m0, m1, m2] ys))]
              refine go_iload (pc' := 326) K at_324 rfl rfl ?_
              refine go_ic_ne_f (pc' := 329) K at_326 (own_fit_f (m := m1) (by simp) (by omega)) rfl ?_
              refine go_iconst (pc' := 330) (v := 1) K at_329 rfl rfl ?_
              refine go_goto (pc' := 334) K at_330 (by decide) (by decide) ?_
              exact go_zret K at_334 (by decide) (by decide) (Or.inr rfl) (by subst hQ; rfl)
          ·
            refine go_iconst (pc' := 247) (v := 1) K at_246 rfl rfl ?_
            refine go_goto (pc' := 251) K at_247 (by decide) (by decide) ?_
            refine go_istore (pc' := 253) (Ls' := #[.val (.int p0), .val (.int p1), .val (.int p2), .val (.int p3), .val (.int p4), .val (.int p5), .val (.int 3), .val (.int d1), .val (.int d2), .val (.int al), .val (.int bg), .val (.int m0), .val (.int m1), .val (.int m2), .val (.ref b), .val (.ref c), .val (.int 1), .val (.int 1), .unset, .unset]) K at_251 rfl rfl ?_
            refine go_iload (pc' := 255) K at_253 rfl rfl ?_
            refine go_iconst (pc' := 256) (v := 3) K at_255 rfl rfl ?_
            refine go_ic_lt_f (pc' := 259) K at_256 (by decide) rfl ?_
            refine go_iload (pc' := 261) K at_259 rfl rfl ?_
            refine go_iload (pc' := 263) K at_261 rfl rfl ?_
            refine go_iload (pc' := 265) K at_263 rfl rfl ?_
            refine go_iload (pc' := 267) K at_265 rfl rfl ?_
            refine go_iload (pc' := 269) K at_267 rfl rfl ?_
            refine go_static (pc' := 272) (Wd := 0) (y' := ⟨"com/example/bridge/bridge/MultisetsFitsPinLaw", "mult", "(IIIII)I"⟩) (argsL := [(.int m2), (.int 3), (.int m0), (.int m1), (.int m2)]) (rest := []) K (hw _ (List.mem_of_getElem? (i := 5) rfl)) (hw _ (List.mem_of_getElem? (i := 6) rfl)) (hw _ (List.mem_of_getElem? (i := 7) rfl)) (hw _ (List.mem_of_getElem? (i := 8) rfl)) at_269 (ct_mult3 l Z h0 a0 hw _ m2 m0 m1 m2) (lenOf pd__IIIII_I rfl) rfl rfl (by decide) rfl (by decide) (by decide) (by decide) (by decide) rfl ?_
            rintro _ ds' ⟨r2, rfl, hr2, hds⟩
            rw [hds]
            show Go W Q [(b, ia [m0, m1, m2]), (c, ia ys)] 2 7 272 #[.val (.int p0), .val (.int p1), .val (.int p2), .val (.int p3), .val (.int p4), .val (.int p5), .val (.int 3), .val (.int d1), .val (.int d2), .val (.int al), .val (.int bg), .val (.int m0), .val (.int m1), .val (.int m2), .val (.ref b), .val (.ref c), .val (.int 1), .val (.int 1), .unset, .unset] [(.int r2)]
            refine go_iload (pc' := 274) K at_272 rfl rfl ?_
            refine go_iload (pc' := 276) K at_274 rfl rfl ?_
            refine go_iloadN (pc' := 277) K at_276 rfl rfl ?_
            refine go_iloadN (pc' := 278) K at_277 rfl rfl ?_
            refine go_iload (pc' := 280) K at_278 rfl rfl ?_
            refine go_iload (pc' := 282) K at_280 rfl rfl ?_
            refine go_static (pc' := 285) (Wd := 1) (y' := ⟨"com/example/bridge/bridge/MultisetsFitsPinLaw", "avail", "(IIIIII)I"⟩) (argsL := [(.int m2), (.int al), (.int p2), (.int p3), (.int p4), (.int p5)]) (rest := [(.int r2)]) K (hw _ (List.mem_of_getElem? (i := 9) rfl)) (hw _ (List.mem_of_getElem? (i := 10) rfl)) (hw _ (List.mem_of_getElem? (i := 7) rfl)) (hw _ (List.mem_of_getElem? (i := 11) rfl)) at_282 (ct_avail l Z h0 a0 hw _ m2 al p2 p3 p4 p5) (lenOf pd__IIIIII_I rfl) rfl rfl (by decide) rfl (by decide) (by decide) (by decide) (by decide) rfl ?_
            rintro _ ds' ⟨rfl, hds⟩
            rw [hds, hys m2 (by omega)]
            show Go W Q [(b, ia [m0, m1, m2]), (c, ia ys)] 2 7 285 #[.val (.int p0), .val (.int p1), .val (.int p2), .val (.int p3), .val (.int p4), .val (.int p5), .val (.int 3), .val (.int d1), .val (.int d2), .val (.int al), .val (.int bg), .val (.int m0), .val (.int m1), .val (.int m2), .val (.ref b), .val (.ref c), .val (.int 1), .val (.int 1), .unset, .unset] [(.int (own_av ys m2)), (.int r2)]
            refine go_ic_gt (pt := 292) (pc' := 288) K at_285 (by decide) (by decide) rfl (fun (o2 : (own_av ys m2).toInt < r2.toInt) => ?_) (fun (o2 : r2.toInt ≤ (own_av ys m2).toInt) => ?_)
            ·
              refine go_iconst (pc' := 293) (v := 0) K at_292 rfl rfl ?_
              refine go_istore (pc' := 295) (Ls' := #[.val (.int p0), .val (.int p1), .val (.int p2), .val (.int p3), .val (.int p4), .val (.int p5), .val (.int 3), .val (.int d1), .val (.int d2), .val (.int al), .val (.int bg), .val (.int m0), .val (.int m1), .val (.int m2), .val (.ref b), .val (.ref c), .val (.int 1), .val (.int 1), .val (.int 0), .unset]) K at_293 rfl rfl ?_
              refine go_iload (pc' := 297) K at_295 rfl rfl ?_
              refine go_if_eq_f (pc' := 300) K at_297 (by decide) rfl ?_
              refine go_iload (pc' := 302) K at_300 rfl rfl ?_
              refine go_if_eq_f (pc' := 305) K at_302 (by decide) rfl ?_
              refine go_iload (pc' := 307) K at_305 rfl rfl ?_
              refine go_if_eq_t (pc' := 314) K at_307 (by decide) (by decide) (by decide) ?_
              refine go_iconst (pc' := 315) (v := 0) K at_314 rfl rfl ?_
              refine go_istore (pc' := 317) (Ls' := #[.val (.int p0), .val (.int p1), .val (.int p2), .val (.int p3), .val (.int p4), .val (.int p5), .val (.int 3), .val (.int d1), .val (.int d2), .val (.int al), .val (.int bg), .val (.int m0), .val (.int m1), .val (.int m2), .val (.ref b), .val (.ref c), .val (.int 1), .val (.int 1), .val (.int 0), .val (.int 0)]) K at_315 rfl rfl ?_
              refine go_aload (pc' := 319) K at_317 rfl rfl rfl ?_
              refine go_aload (pc' := 321) K at_319 rfl rfl rfl ?_
              refine go_static (pc' := 324) (Wd := 0) (y' := ⟨"com/example/bridge/bridge/Multisets", "fits", "([I[I)Z"⟩) (argsL := [(.ref b), (.ref c)]) (rest := []) K (hw _ (List.mem_of_getElem? (i := 1) rfl)) (hw _ (List.mem_of_getElem? (i := 2) rfl)) (hw _ (List.mem_of_getElem? (i := 3) rfl)) (hw _ (List.mem_of_getElem? (i := 4) rfl)) at_321 (ct_fits3 l Z h0 a0 hw _ 0 1 b c m0 m1 m2 ys rfl rfl hy4 (by omega) (by omega) (by omega) (by omega) (by omega)) (lenOf pd___I_I_Z rfl) rfl rfl (by decide) rfl (by decide) (by decide) (by decide) (by decide) rfl ?_
              rintro _ ds' ⟨rfl, hds⟩
              rw [hds]
              show Go W Q [(b, ia [m0, m1, m2]), (c, ia ys)] 2 7 324 #[.val (.int p0), .val (.int p1), .val (.int p2), .val (.int p3), .val (.int p4), .val (.int p5), .val (.int 3), .val (.int d1), .val (.int d2), .val (.int al), .val (.int bg), .val (.int m0), .val (.int m1), .val (.int m2), .val (.ref b), .val (.ref c), .val (.int 1), .val (.int 1), .val (.int 0), .val (.int 0)] [(.int (own_fit [m0, m1, m2] ys))]
              refine go_iload (pc' := 326) K at_324 rfl rfl ?_
              refine go_ic_ne_f (pc' := 329) K at_326 (own_fit_f (m := m2) (by simp) (by omega)) rfl ?_
              refine go_iconst (pc' := 330) (v := 1) K at_329 rfl rfl ?_
              refine go_goto (pc' := 334) K at_330 (by decide) (by decide) ?_
              exact go_zret K at_334 (by decide) (by decide) (Or.inr rfl) (by subst hQ; rfl)
            ·
              refine go_iconst (pc' := 289) (v := 1) K at_288 rfl rfl ?_
              refine go_goto (pc' := 293) K at_289 (by decide) (by decide) ?_
              refine go_istore (pc' := 295) (Ls' := #[.val (.int p0), .val (.int p1), .val (.int p2), .val (.int p3), .val (.int p4), .val (.int p5), .val (.int 3), .val (.int d1), .val (.int d2), .val (.int al), .val (.int bg), .val (.int m0), .val (.int m1), .val (.int m2), .val (.ref b), .val (.ref c), .val (.int 1), .val (.int 1), .val (.int 1), .unset]) K at_293 rfl rfl ?_
              refine go_iload (pc' := 297) K at_295 rfl rfl ?_
              refine go_if_eq_f (pc' := 300) K at_297 (by decide) rfl ?_
              refine go_iload (pc' := 302) K at_300 rfl rfl ?_
              refine go_if_eq_f (pc' := 305) K at_302 (by decide) rfl ?_
              refine go_iload (pc' := 307) K at_305 rfl rfl ?_
              refine go_if_eq_f (pc' := 310) K at_307 (by decide) rfl ?_
              refine go_iconst (pc' := 311) (v := 1) K at_310 rfl rfl ?_
              refine go_goto (pc' := 315) K at_311 (by decide) (by decide) ?_
              refine go_istore (pc' := 317) (Ls' := #[.val (.int p0), .val (.int p1), .val (.int p2), .val (.int p3), .val (.int p4), .val (.int p5), .val (.int 3), .val (.int d1), .val (.int d2), .val (.int al), .val (.int bg), .val (.int m0), .val (.int m1), .val (.int m2), .val (.ref b), .val (.ref c), .val (.int 1), .val (.int 1), .val (.int 1), .val (.int 1)]) K at_315 rfl rfl ?_
              refine go_aload (pc' := 319) K at_317 rfl rfl rfl ?_
              refine go_aload (pc' := 321) K at_319 rfl rfl rfl ?_
              refine go_static (pc' := 324) (Wd := 0) (y' := ⟨"com/example/bridge/bridge/Multisets", "fits", "([I[I)Z"⟩) (argsL := [(.ref b), (.ref c)]) (rest := []) K (hw _ (List.mem_of_getElem? (i := 1) rfl)) (hw _ (List.mem_of_getElem? (i := 2) rfl)) (hw _ (List.mem_of_getElem? (i := 3) rfl)) (hw _ (List.mem_of_getElem? (i := 4) rfl)) at_321 (ct_fits3 l Z h0 a0 hw _ 0 1 b c m0 m1 m2 ys rfl rfl hy4 (by omega) (by omega) (by omega) (by omega) (by omega)) (lenOf pd___I_I_Z rfl) rfl rfl (by decide) rfl (by decide) (by decide) (by decide) (by decide) rfl ?_
              rintro _ ds' ⟨rfl, hds⟩
              rw [hds]
              show Go W Q [(b, ia [m0, m1, m2]), (c, ia ys)] 2 7 324 #[.val (.int p0), .val (.int p1), .val (.int p2), .val (.int p3), .val (.int p4), .val (.int p5), .val (.int 3), .val (.int d1), .val (.int d2), .val (.int al), .val (.int bg), .val (.int m0), .val (.int m1), .val (.int m2), .val (.ref b), .val (.ref c), .val (.int 1), .val (.int 1), .val (.int 1), .val (.int 1)] [(.int (own_fit [m0, m1, m2] ys))]
              refine go_iload (pc' := 326) K at_324 rfl rfl ?_
              refine go_ic_ne_f (pc' := 329) K at_326 (own_fit_t (by intro m hm; simp only [List.mem_cons, List.not_mem_nil, or_false] at hm; rcases hm with rfl | rfl | rfl <;> omega)) rfl ?_
              refine go_iconst (pc' := 330) (v := 1) K at_329 rfl rfl ?_
              refine go_goto (pc' := 334) K at_330 (by decide) (by decide) ?_
              exact go_zret K at_334 (by decide) (by decide) (Or.inr rfl) (by subst hQ; rfl)
      rcases ha5 with rfl | rfl | rfl | rfl | rfl
      ·
        refine go_iload (pc' := 120) K at_118 rfl rfl ?_
        refine go_newI (pc' := 122) (m := 0) (cap := 4) K (hw _ (List.mem_of_getElem? (i := 0) rfl)) at_120 (by decide) (by decide) (by decide) (by decide) (by decide) rfl (fun c hgc hlc => ?_)
        show Go W Q [(b, ia [m0, m1, m2]), (c, ia [])] 2 7 122 #[.val (.int p0), .val (.int p1), .val (.int p2), .val (.int p3), .val (.int p4), .val (.int p5), .val (.int 3), .val (.int d1), .val (.int d2), .val (.int 0), .val (.int bg), .val (.int m0), .val (.int m1), .val (.int m2), .val (.ref b), .unset, .unset, .unset, .unset, .unset] [(.ref c)]
        refine go_astore (pc' := 124) (Ls' := #[.val (.int p0), .val (.int p1), .val (.int p2), .val (.int p3), .val (.int p4), .val (.int p5), .val (.int 3), .val (.int d1), .val (.int d2), .val (.int 0), .val (.int bg), .val (.int m0), .val (.int m1), .val (.int m2), .val (.ref b), .val (.ref c), .unset, .unset, .unset, .unset]) K at_122 rfl rfl rfl ?_
        refine go_iload (pc' := 126) K at_124 rfl rfl ?_
        refine go_if_le_t (pc' := 134) K at_126 (by decide) (by decide) (by decide) ?_
        refine go_iload (pc' := 136) K at_134 rfl rfl ?_
        refine go_iconst (pc' := 137) (v := 1) K at_136 rfl rfl ?_
        refine go_ic_le_t (pc' := 145) K at_137 (by decide) (by decide) (by decide) ?_
        refine go_iload (pc' := 147) K at_145 rfl rfl ?_
        refine go_iconst (pc' := 148) (v := 2) K at_147 rfl rfl ?_
        refine go_ic_le_t (pc' := 157) K at_148 (by decide) (by decide) (by decide) ?_
        refine go_iload (pc' := 159) K at_157 rfl rfl ?_
        refine go_iconst (pc' := 160) (v := 3) K at_159 rfl rfl ?_
        refine go_ic_le_t (pc' := 169) K at_160 (by decide) (by decide) (by decide) ?_
        exact J169 c _ _ (by simp) (own_avk0 p2 p3 p4 p5)
      ·
        refine go_iload (pc' := 120) K at_118 rfl rfl ?_
        refine go_newI (pc' := 122) (m := 1) (cap := 4) K (hw _ (List.mem_of_getElem? (i := 0) rfl)) at_120 (by decide) (by decide) (by decide) (by decide) (by decide) rfl (fun c hgc hlc => ?_)
        show Go W Q [(b, ia [m0, m1, m2]), (c, ia [0])] 2 7 122 #[.val (.int p0), .val (.int p1), .val (.int p2), .val (.int p3), .val (.int p4), .val (.int p5), .val (.int 3), .val (.int d1), .val (.int d2), .val (.int 1), .val (.int bg), .val (.int m0), .val (.int m1), .val (.int m2), .val (.ref b), .unset, .unset, .unset, .unset, .unset] [(.ref c)]
        refine go_astore (pc' := 124) (Ls' := #[.val (.int p0), .val (.int p1), .val (.int p2), .val (.int p3), .val (.int p4), .val (.int p5), .val (.int 3), .val (.int d1), .val (.int d2), .val (.int 1), .val (.int bg), .val (.int m0), .val (.int m1), .val (.int m2), .val (.ref b), .val (.ref c), .unset, .unset, .unset, .unset]) K at_122 rfl rfl rfl ?_
        refine go_iload (pc' := 126) K at_124 rfl rfl ?_
        refine go_if_le_f (pc' := 129) K at_126 (by decide) rfl ?_
        refine go_aload (pc' := 131) K at_129 rfl rfl rfl ?_
        refine go_iconst (pc' := 132) (v := 0) K at_131 rfl rfl ?_
        refine go_iloadN (pc' := 133) K at_132 rfl rfl ?_
        refine go_iastore (pc' := 134) (i := 1) (m := 0) (ds' := [(b, ia [m0, m1, m2]), (c, ia [p2])]) K rfl at_133 (by decide) (by simp) rfl rfl ?_
        refine go_iload (pc' := 136) K at_134 rfl rfl ?_
        refine go_iconst (pc' := 137) (v := 1) K at_136 rfl rfl ?_
        refine go_ic_le_t (pc' := 145) K at_137 (by decide) (by decide) (by decide) ?_
        refine go_iload (pc' := 147) K at_145 rfl rfl ?_
        refine go_iconst (pc' := 148) (v := 2) K at_147 rfl rfl ?_
        refine go_ic_le_t (pc' := 157) K at_148 (by decide) (by decide) (by decide) ?_
        refine go_iload (pc' := 159) K at_157 rfl rfl ?_
        refine go_iconst (pc' := 160) (v := 3) K at_159 rfl rfl ?_
        refine go_ic_le_t (pc' := 169) K at_160 (by decide) (by decide) (by decide) ?_
        exact J169 c _ _ (by simp) (own_avk1 p2 p3 p4 p5)
      ·
        refine go_iload (pc' := 120) K at_118 rfl rfl ?_
        refine go_newI (pc' := 122) (m := 2) (cap := 4) K (hw _ (List.mem_of_getElem? (i := 0) rfl)) at_120 (by decide) (by decide) (by decide) (by decide) (by decide) rfl (fun c hgc hlc => ?_)
        show Go W Q [(b, ia [m0, m1, m2]), (c, ia [0, 0])] 2 7 122 #[.val (.int p0), .val (.int p1), .val (.int p2), .val (.int p3), .val (.int p4), .val (.int p5), .val (.int 3), .val (.int d1), .val (.int d2), .val (.int 2), .val (.int bg), .val (.int m0), .val (.int m1), .val (.int m2), .val (.ref b), .unset, .unset, .unset, .unset, .unset] [(.ref c)]
        refine go_astore (pc' := 124) (Ls' := #[.val (.int p0), .val (.int p1), .val (.int p2), .val (.int p3), .val (.int p4), .val (.int p5), .val (.int 3), .val (.int d1), .val (.int d2), .val (.int 2), .val (.int bg), .val (.int m0), .val (.int m1), .val (.int m2), .val (.ref b), .val (.ref c), .unset, .unset, .unset, .unset]) K at_122 rfl rfl rfl ?_
        refine go_iload (pc' := 126) K at_124 rfl rfl ?_
        refine go_if_le_f (pc' := 129) K at_126 (by decide) rfl ?_
        refine go_aload (pc' := 131) K at_129 rfl rfl rfl ?_
        refine go_iconst (pc' := 132) (v := 0) K at_131 rfl rfl ?_
        refine go_iloadN (pc' := 133) K at_132 rfl rfl ?_
        refine go_iastore (pc' := 134) (i := 1) (m := 0) (ds' := [(b, ia [m0, m1, m2]), (c, ia [p2, 0])]) K rfl at_133 (by decide) (by simp) rfl rfl ?_
        refine go_iload (pc' := 136) K at_134 rfl rfl ?_
        refine go_iconst (pc' := 137) (v := 1) K at_136 rfl rfl ?_
        refine go_ic_le_f (pc' := 140) K at_137 (by decide) rfl ?_
        refine go_aload (pc' := 142) K at_140 rfl rfl rfl ?_
        refine go_iconst (pc' := 143) (v := 1) K at_142 rfl rfl ?_
        refine go_iloadN (pc' := 144) K at_143 rfl rfl ?_
        refine go_iastore (pc' := 145) (i := 1) (m := 1) (ds' := [(b, ia [m0, m1, m2]), (c, ia [p2, p3])]) K rfl at_144 (by decide) (by simp) rfl rfl ?_
        refine go_iload (pc' := 147) K at_145 rfl rfl ?_
        refine go_iconst (pc' := 148) (v := 2) K at_147 rfl rfl ?_
        refine go_ic_le_t (pc' := 157) K at_148 (by decide) (by decide) (by decide) ?_
        refine go_iload (pc' := 159) K at_157 rfl rfl ?_
        refine go_iconst (pc' := 160) (v := 3) K at_159 rfl rfl ?_
        refine go_ic_le_t (pc' := 169) K at_160 (by decide) (by decide) (by decide) ?_
        exact J169 c _ _ (by simp) (own_avk2 p2 p3 p4 p5)
      ·
        refine go_iload (pc' := 120) K at_118 rfl rfl ?_
        refine go_newI (pc' := 122) (m := 3) (cap := 4) K (hw _ (List.mem_of_getElem? (i := 0) rfl)) at_120 (by decide) (by decide) (by decide) (by decide) (by decide) rfl (fun c hgc hlc => ?_)
        show Go W Q [(b, ia [m0, m1, m2]), (c, ia [0, 0, 0])] 2 7 122 #[.val (.int p0), .val (.int p1), .val (.int p2), .val (.int p3), .val (.int p4), .val (.int p5), .val (.int 3), .val (.int d1), .val (.int d2), .val (.int 3), .val (.int bg), .val (.int m0), .val (.int m1), .val (.int m2), .val (.ref b), .unset, .unset, .unset, .unset, .unset] [(.ref c)]
        refine go_astore (pc' := 124) (Ls' := #[.val (.int p0), .val (.int p1), .val (.int p2), .val (.int p3), .val (.int p4), .val (.int p5), .val (.int 3), .val (.int d1), .val (.int d2), .val (.int 3), .val (.int bg), .val (.int m0), .val (.int m1), .val (.int m2), .val (.ref b), .val (.ref c), .unset, .unset, .unset, .unset]) K at_122 rfl rfl rfl ?_
        refine go_iload (pc' := 126) K at_124 rfl rfl ?_
        refine go_if_le_f (pc' := 129) K at_126 (by decide) rfl ?_
        refine go_aload (pc' := 131) K at_129 rfl rfl rfl ?_
        refine go_iconst (pc' := 132) (v := 0) K at_131 rfl rfl ?_
        refine go_iloadN (pc' := 133) K at_132 rfl rfl ?_
        refine go_iastore (pc' := 134) (i := 1) (m := 0) (ds' := [(b, ia [m0, m1, m2]), (c, ia [p2, 0, 0])]) K rfl at_133 (by decide) (by simp) rfl rfl ?_
        refine go_iload (pc' := 136) K at_134 rfl rfl ?_
        refine go_iconst (pc' := 137) (v := 1) K at_136 rfl rfl ?_
        refine go_ic_le_f (pc' := 140) K at_137 (by decide) rfl ?_
        refine go_aload (pc' := 142) K at_140 rfl rfl rfl ?_
        refine go_iconst (pc' := 143) (v := 1) K at_142 rfl rfl ?_
        refine go_iloadN (pc' := 144) K at_143 rfl rfl ?_
        refine go_iastore (pc' := 145) (i := 1) (m := 1) (ds' := [(b, ia [m0, m1, m2]), (c, ia [p2, p3, 0])]) K rfl at_144 (by decide) (by simp) rfl rfl ?_
        refine go_iload (pc' := 147) K at_145 rfl rfl ?_
        refine go_iconst (pc' := 148) (v := 2) K at_147 rfl rfl ?_
        refine go_ic_le_f (pc' := 151) K at_148 (by decide) rfl ?_
        refine go_aload (pc' := 153) K at_151 rfl rfl rfl ?_
        refine go_iconst (pc' := 154) (v := 2) K at_153 rfl rfl ?_
        refine go_iload (pc' := 156) K at_154 rfl rfl ?_
        refine go_iastore (pc' := 157) (i := 1) (m := 2) (ds' := [(b, ia [m0, m1, m2]), (c, ia [p2, p3, p4])]) K rfl at_156 (by decide) (by simp) rfl rfl ?_
        refine go_iload (pc' := 159) K at_157 rfl rfl ?_
        refine go_iconst (pc' := 160) (v := 3) K at_159 rfl rfl ?_
        refine go_ic_le_t (pc' := 169) K at_160 (by decide) (by decide) (by decide) ?_
        exact J169 c _ _ (by simp) (own_avk3 p2 p3 p4 p5)
      ·
        refine go_iload (pc' := 120) K at_118 rfl rfl ?_
        refine go_newI (pc' := 122) (m := 4) (cap := 4) K (hw _ (List.mem_of_getElem? (i := 0) rfl)) at_120 (by decide) (by decide) (by decide) (by decide) (by decide) rfl (fun c hgc hlc => ?_)
        show Go W Q [(b, ia [m0, m1, m2]), (c, ia [0, 0, 0, 0])] 2 7 122 #[.val (.int p0), .val (.int p1), .val (.int p2), .val (.int p3), .val (.int p4), .val (.int p5), .val (.int 3), .val (.int d1), .val (.int d2), .val (.int 4), .val (.int bg), .val (.int m0), .val (.int m1), .val (.int m2), .val (.ref b), .unset, .unset, .unset, .unset, .unset] [(.ref c)]
        refine go_astore (pc' := 124) (Ls' := #[.val (.int p0), .val (.int p1), .val (.int p2), .val (.int p3), .val (.int p4), .val (.int p5), .val (.int 3), .val (.int d1), .val (.int d2), .val (.int 4), .val (.int bg), .val (.int m0), .val (.int m1), .val (.int m2), .val (.ref b), .val (.ref c), .unset, .unset, .unset, .unset]) K at_122 rfl rfl rfl ?_
        refine go_iload (pc' := 126) K at_124 rfl rfl ?_
        refine go_if_le_f (pc' := 129) K at_126 (by decide) rfl ?_
        refine go_aload (pc' := 131) K at_129 rfl rfl rfl ?_
        refine go_iconst (pc' := 132) (v := 0) K at_131 rfl rfl ?_
        refine go_iloadN (pc' := 133) K at_132 rfl rfl ?_
        refine go_iastore (pc' := 134) (i := 1) (m := 0) (ds' := [(b, ia [m0, m1, m2]), (c, ia [p2, 0, 0, 0])]) K rfl at_133 (by decide) (by simp) rfl rfl ?_
        refine go_iload (pc' := 136) K at_134 rfl rfl ?_
        refine go_iconst (pc' := 137) (v := 1) K at_136 rfl rfl ?_
        refine go_ic_le_f (pc' := 140) K at_137 (by decide) rfl ?_
        refine go_aload (pc' := 142) K at_140 rfl rfl rfl ?_
        refine go_iconst (pc' := 143) (v := 1) K at_142 rfl rfl ?_
        refine go_iloadN (pc' := 144) K at_143 rfl rfl ?_
        refine go_iastore (pc' := 145) (i := 1) (m := 1) (ds' := [(b, ia [m0, m1, m2]), (c, ia [p2, p3, 0, 0])]) K rfl at_144 (by decide) (by simp) rfl rfl ?_
        refine go_iload (pc' := 147) K at_145 rfl rfl ?_
        refine go_iconst (pc' := 148) (v := 2) K at_147 rfl rfl ?_
        refine go_ic_le_f (pc' := 151) K at_148 (by decide) rfl ?_
        refine go_aload (pc' := 153) K at_151 rfl rfl rfl ?_
        refine go_iconst (pc' := 154) (v := 2) K at_153 rfl rfl ?_
        refine go_iload (pc' := 156) K at_154 rfl rfl ?_
        refine go_iastore (pc' := 157) (i := 1) (m := 2) (ds' := [(b, ia [m0, m1, m2]), (c, ia [p2, p3, p4, 0])]) K rfl at_156 (by decide) (by simp) rfl rfl ?_
        refine go_iload (pc' := 159) K at_157 rfl rfl ?_
        refine go_iconst (pc' := 160) (v := 3) K at_159 rfl rfl ?_
        refine go_ic_le_f (pc' := 163) K at_160 (by decide) rfl ?_
        refine go_aload (pc' := 165) K at_163 rfl rfl rfl ?_
        refine go_iconst (pc' := 166) (v := 3) K at_165 rfl rfl ?_
        refine go_iload (pc' := 168) K at_166 rfl rfl ?_
        refine go_iastore (pc' := 169) (i := 1) (m := 3) (ds' := [(b, ia [m0, m1, m2]), (c, ia [p2, p3, p4, p5])]) K rfl at_168 (by decide) (by simp) rfl rfl ?_
        exact J169 c _ _ (by simp) (own_avk4 p2 p3 p4 p5)
      
    
  refine go_iloadN (pc' := 31) K at_30 rfl rfl ?_
  refine go_bipush (pc' := 33) (v := 9) K at_31 (by decide) rfl ?_
  refine go_iushr (pc' := 34) K at_33 rfl ?_
  refine go_iconst (pc' := 35) (v := 1) K at_34 rfl rfl ?_
  refine go_iand (pc' := 36) K at_35 rfl ?_
  refine go_if_eq (pt := 43) (pc' := 39) K at_36 (by decide) (by decide) rfl (fun (hc36 : ((XT.ushr p0 9) &&& 1) = 0) => ?_) (fun (hc36 : ((XT.ushr p0 9) &&& 1) ≠ 0) => ?_)
  ·
    refine go_iconst (pc' := 44) (v := 0) K at_43 rfl rfl ?_
    refine go_istore (pc' := 46) (Ls' := #[.val (.int p0), .val (.int p1), .val (.int p2), .val (.int p3), .val (.int p4), .val (.int p5), .val (.int len), .val (.int d1), .val (.int d2), .val (.int al0), .val (.int 0), .unset, .unset, .unset, .unset, .unset, .unset, .unset, .unset, .unset]) K at_44 rfl rfl ?_
    refine go_iload (pc' := 48) K at_46 rfl rfl ?_
    refine go_if_eq_t (pc' := 58) K at_48 (by decide) (by decide) (by decide) ?_
    refine go_iloadN (pc' := 59) K at_58 rfl rfl ?_
    refine go_iconst (pc' := 60) (v := 3) K at_59 rfl rfl ?_
    refine go_iand (pc' := 61) K at_60 rfl ?_
    exact J61 _ _ (by first | exact own_m30 p1 | (have := own_m3 p1; omega))
  ·
    refine go_iconst (pc' := 40) (v := 1) K at_39 rfl rfl ?_
    refine go_goto (pc' := 44) K at_40 (by decide) (by decide) ?_
    refine go_istore (pc' := 46) (Ls' := #[.val (.int p0), .val (.int p1), .val (.int p2), .val (.int p3), .val (.int p4), .val (.int p5), .val (.int len), .val (.int d1), .val (.int d2), .val (.int al0), .val (.int 1), .unset, .unset, .unset, .unset, .unset, .unset, .unset, .unset, .unset]) K at_44 rfl rfl ?_
    refine go_iload (pc' := 48) K at_46 rfl rfl ?_
    refine go_if_eq_f (pc' := 51) K at_48 (by decide) rfl ?_
    refine go_iloadN (pc' := 52) K at_51 rfl rfl ?_
    refine go_ldc (pc' := 54) (v := 1073741823) K at_52 (hw _ (List.mem_of_getElem? (i := 12) rfl)) rfl ?_
    refine go_iand (pc' := 55) K at_54 rfl ?_
    refine go_goto (pc' := 61) K at_55 (by decide) (by decide) ?_
    exact J61 _ _ (by first | exact own_m30 p1 | (have := own_m3 p1; omega))
set_option maxRecDepth 65536 in
set_option maxHeartbeats 40000000 in
theorem comes_1 {Post : Tables → Env → Array Value → State → Outcome → State → Prop} (hpost : ∀ tb e args s v u, (limb_1_1.after args s (.returned v) u = true ∧ limb_1_2.after args s (.returned v) u = true ∧ True) → FrameEnd s (.returned v) u (Jvm.fieldLocs frame_1_writes args s ++ Jvm.arrayLocs frame_1_arrays args s ++ Jvm.staticLocs frame_1_statics s) 16 128 → Post tb e args s (.returned v) u) :
    ArmFor flags0 classFile x code maxLocals ret World_1 tables_1 room_1 Calls_1 rest_1 Pre_1 Post := by
  intro l hfl _ _ p e ha hc hk s m args below hf hA hF happ hP
  obtain ⟨hcalls, hrest, hpre⟩ := hP
  obtain ⟨-, -, -, hnamed, -, -, -, hat⟩ := (Spec.applies_iff hf).mp happ
  obtain ⟨hg, hn⟩ := and_e (Cond.before_iff.mp (show (Jvm.Cond.and given_1 narrow_1).before args s = true from hpre))
  obtain ⟨hcount, g0⟩ := and_e hg
  obtain ⟨q0, g1⟩ := and_e g0
  obtain ⟨q1, g2⟩ := and_e g1
  obtain ⟨q2, g3⟩ := and_e g2
  obtain ⟨q3, g4⟩ := and_e g3
  obtain ⟨q4, g5⟩ := and_e g4
  obtain ⟨w0, w1, w2, w3, w4, w5, rfl⟩ : ∃ w0 w1 w2 w3 w4 w5 : Value, args = #[w0, w1, w2, w3, w4, w5] := by
    have hs : args.size = 6 := by simpa [Cond.value, given_1] using hcount
    obtain ⟨L⟩ := args
    match L, hs with
    | [w0, w1, w2, w3, w4, w5], _ => exact ⟨w0, w1, w2, w3, w4, w5, rfl⟩
  have hw := fun d (hd : d ∈ tables_1) => atoms_spec (ws := Jvm.Cond.code x code maxLocals ret :: tables_1) hat d (List.mem_cons_of_mem _ hd)
  obtain ⟨i0, e0⟩ := is_v q0
  obtain rfl : w0 = (.int i0) := Option.some.inj e0
  obtain ⟨i1, e1⟩ := is_v q1
  obtain rfl : w1 = (.int i1) := Option.some.inj e1
  obtain ⟨i2, e2⟩ := is_v q2
  obtain rfl : w2 = (.int i2) := Option.some.inj e2
  obtain ⟨i3, e3⟩ := is_v q3
  obtain rfl : w3 = (.int i3) := Option.some.inj e3
  obtain ⟨i4, e4⟩ := is_v q4
  obtain rfl : w4 = (.int i4) := Option.some.inj e4
  obtain ⟨i5, e5⟩ := is_v g5
  obtain rfl : w5 = (.int i5) := Option.some.inj e5
  obtain ⟨n, o, h1, h2, h3, v, L, rfl, ⟨N, ds', -, rfl⟩, hq⟩ := law_ct l s s.heap _ hw i0 i1 i2 i3 i4 i5  s.heap (HL.nil s s.heap) p e ha hc hk s m _ below hf ((Spec.applies_iff_loose hf).mp happ).1 ⟨rfl, State.Warmed39.refl s, rfl⟩ trivial
  refine ⟨n, _, h1, h2, h3, hpost _ _ _ _ _ _ ⟨Cond.after_iff.mpr rfl, Cond.after_iff.mpr (eq_i res_at (Term.int_eval (1)) rfl), trivial⟩ ⟨hq.1, hq.2.1, (hq.2.2.sift fun y hy => Or.inr (N y hy)).mono (by decide) (by decide)⟩⟩
theorem main_1_1 : Claimed_1_1 := comes_1 fun _ _ _ _ _ _ h hF => ⟨h.1, hF⟩
theorem main_1_2 : Claimed_1_2 := comes_1 fun _ _ _ _ _ _ h hF => ⟨h.2.1, hF⟩
end Jvm.Pilot.@@N@@
namespace Jvm.Pilot.@@N@@
open Jvm Jvm.ClassFile Sem Op Lib Jvm.Free Jvm.Stand Jvm.Pilot.@@N@@.Jvm.D
/-! MADE BY PROGRAM (witnessworld.py) out of the Statement's table words and the real class files: 9 classes; the members and pool entries that the words name. The judged class is class 1, her method 1. -/
namespace start1
open Jvm.ClassFile
def u (s : String) : CpInfo := .utf8 (stringToUtf16 s)
/-- a pool by its gaps: so many unusable entries, then the entry; so many at the end -/
def gap : Nat → List CpInfo → List CpInfo
  | 0, r => r
  | n + 1, r => .unusable :: gap n r
def poolList (es : List (Nat × CpInfo)) (last : Nat) : List CpInfo := es.foldr (fun e r => gap e.1 (e.2 :: r)) (gap last [])
def pool (es : List (Nat × CpInfo)) (last : Nat) : Array CpInfo := ⟨poolList es last⟩
def fileOf (pool : Array CpInfo) (this : Nat) (attrs : Array Attribute := #[]) (ms : Array MethodInfo := #[]) (fl : Nat := 33) (sup : Nat := 0) (ifs : Array Nat := #[]) (fds : Array FieldInfo := #[]) : ClassFile where
  minorVersion := 0
  majorVersion := 65
  constantPool := pool
  accessFlags := fl
  thisClass := this
  superClass := sup
  interfaces := ifs
  fields := fds
  methods := ms
  attributes := attrs
def plain (name : String) (sup : Option ClassId) : Class where
  name := name
  kind := .ordinary
  loader := none
  accessFlags := 33
  super := sup
  interfaces := #[]
  cf := none
  fields := #[]
  methods := #[]
  instanceTypes := #[]
  staticTypes := #[]
  resolved := #[]
  callSites := []
  init := .initialized
  statics := none
  mirror := none

def pool0 : Array CpInfo := pool [(5, u "<init>"), (0, u "()V"), (1, .class_ 10), (1, u "java/lang/Object")] 113

def k0m0 : Method := { name := "<init>", desc := "()V", sig := { parameters := [], returnType := none }, accessFlags := 1, code := none }
/-- java/lang/Object -/
def k0 : Class := { plain "java/lang/Object" none with
  accessFlags := 33
  interfaces := #[]
  cf := some (fileOf pool0 8 #[] #[{ accessFlags := 1, nameIndex := 5, descriptorIndex := 6, attributes := #[] }] 33 0 #[] #[])
  fields := #[]
  methods := #[k0m0]
  instanceTypes := #[]
  staticTypes := #[]
  resolved := Array.replicate 124 none
  statics := none }

def pool1 : Array CpInfo := pool [(2, .class_ 4), (1, u "java/lang/Object"), (0, u "<init>"), (0, u "()V"), (0, .integer 1073741823), (0, .methodref 9 10), (0, .class_ 11), (0, .nameAndType 12 13), (0, u "com/example/bridge/bridge/MultisetsFitsPinLaw"), (0, u "mult"), (0, u "(IIIII)I"), (0, .methodref 9 15), (0, .nameAndType 16 17), (0, u "avail"), (0, u "(IIIIII)I"), (0, .methodref 19 20), (0, .class_ 21), (0, .nameAndType 22 23), (0, u "com/example/bridge/bridge/Multisets"), (0, u "fits"), (0, u "([I[I)Z"), (2, u "law"), (0, u "(IIIIII)Z")] 5

def k1m0 : Method := { name := "<init>", desc := "()V", sig := { parameters := [], returnType := none }, accessFlags := 1, code := none }
def k1c1 : Code := { maxStack := 7, maxLocals := 20, code := code, exceptionTable := #[], attributes := #[] }
def k1m1 : Method := { name := "law", desc := "(IIIIII)Z", sig := { parameters := [.int, .int, .int, .int, .int, .int], returnType := some .boolean }, accessFlags := 9, code := some k1c1 }
def k1c2 : Code := { maxStack := 2, maxLocals := 6, code := method_3_code, exceptionTable := #[], attributes := #[] }
def k1m2 : Method := { name := "mult", desc := "(IIIII)I", sig := { parameters := [.int, .int, .int, .int, .int], returnType := some .int }, accessFlags := 10, code := some k1c2 }
def k1c3 : Code := { maxStack := 2, maxLocals := 6, code := method_4_code, exceptionTable := #[], attributes := #[] }
def k1m3 : Method := { name := "avail", desc := "(IIIIII)I", sig := { parameters := [.int, .int, .int, .int, .int, .int], returnType := some .int }, accessFlags := 10, code := some k1c3 }
/-- com/example/bridge/bridge/MultisetsFitsPinLaw -/
def k1 : Class := { plain "com/example/bridge/bridge/MultisetsFitsPinLaw" (some 0) with
  accessFlags := 49
  interfaces := #[]
  cf := some (fileOf pool1 9 #[] #[{ accessFlags := 1, nameIndex := 5, descriptorIndex := 6, attributes := #[] }, { accessFlags := 9, nameIndex := 26, descriptorIndex := 27, attributes := #[] }, { accessFlags := 10, nameIndex := 12, descriptorIndex := 13, attributes := #[] }, { accessFlags := 10, nameIndex := 16, descriptorIndex := 17, attributes := #[] }] 49 2 #[] #[])
  fields := #[]
  methods := #[k1m0, k1m1, k1m2, k1m3]
  instanceTypes := #[]
  staticTypes := #[]
  resolved := Array.replicate 33 none
  statics := none }

def pool2 : Array CpInfo := pool [(2, .class_ 4), (1, u "java/lang/Object"), (0, u "<init>"), (0, u "()V"), (16, .class_ 24), (0, u "com/example/bridge/bridge/Multisets"), (7, u "fits"), (0, u "([I[I)Z")] 5

def k2m0 : Method := { name := "<init>", desc := "()V", sig := { parameters := [], returnType := none }, accessFlags := 2, code := none }
def k2c1 : Code := { maxStack := 3, maxLocals := 5, code := prog_97_method_3_code, exceptionTable := #[], attributes := #[] }
def k2m1 : Method := { name := "fits", desc := "([I[I)Z", sig := { parameters := [(.array .int), (.array .int)], returnType := some .boolean }, accessFlags := 8, code := some k2c1 }
/-- com/example/bridge/bridge/Multisets -/
def k2 : Class := { plain "com/example/bridge/bridge/Multisets" (some 0) with
  accessFlags := 48
  interfaces := #[]
  cf := some (fileOf pool2 23 #[] #[{ accessFlags := 2, nameIndex := 5, descriptorIndex := 6, attributes := #[] }, { accessFlags := 8, nameIndex := 32, descriptorIndex := 33, attributes := #[] }] 48 2 #[] #[])
  fields := #[]
  methods := #[k2m0, k2m1]
  instanceTypes := #[]
  staticTypes := #[]
  resolved := Array.replicate 39 none
  statics := none }

def pool3 : Array CpInfo := pool [(1, u "java/lang/Cloneable"), (0, .class_ 1), (0, u "java/lang/Object"), (0, .class_ 3)] 3

/-- java/lang/Cloneable -/
def k3 : Class := { plain "java/lang/Cloneable" (some 0) with
  accessFlags := 1537
  interfaces := #[]
  cf := some (fileOf pool3 2 #[] #[] 1537 4 #[] #[])
  fields := #[]
  methods := #[]
  instanceTypes := #[]
  staticTypes := #[]
  resolved := Array.replicate 8 none
  statics := none }

def pool4 : Array CpInfo := pool [(1, u "java/io/Serializable"), (0, .class_ 1), (0, u "java/lang/Object"), (0, .class_ 3)] 3

/-- java/io/Serializable -/
def k4 : Class := { plain "java/io/Serializable" (some 0) with
  accessFlags := 1537
  interfaces := #[]
  cf := some (fileOf pool4 2 #[] #[] 1537 4 #[] #[])
  fields := #[]
  methods := #[]
  instanceTypes := #[]
  staticTypes := #[]
  resolved := Array.replicate 8 none
  statics := none }

/-- the primitive byte -/
def k5 : Class := { plain "byte" none with kind := .primitive 'B', accessFlags := 0x411 }
/-- [B -/
def k6 : Class := { plain "[B" (some 0) with kind := .array 5 .byte, interfaces := #[3, 4], accessFlags := 1041 }

/-- the primitive int -/
def k7 : Class := { plain "int" none with kind := .primitive 'I', accessFlags := 0x411 }
/-- [I -/
def k8 : Class := { plain "[I" (some 0) with kind := .array 7 .int, interfaces := #[3, 4], accessFlags := 1041 }

def heap : Heap := #[]
def classes : Array Class := #[k0, k1, k2, k3, k4, k5, k6, k7, k8]
def interned : List (Array UInt16 × Addr) := []
def slotsUsed : Nat := 0
def theMethod : MethodId := ⟨1, 1⟩
def args0 : Array Value := #[.int 5, .int 300, .int 7, .int 9, .int 3, .int 4]
def aboutOver (below : List Frame) : State where
  vm := { classes := classes, interned := interned.toArray }
  heap := heap
  slotsUsed := slotsUsed
  threads := #[{ frames := .invoking theMethod args0 :: below }]
def below0 : List Frame := [.native { method := ⟨0, 0⟩, args := #[] }]
def about1 : State := aboutOver below0
def p0 : Program := .bare "" "" ""
def e0 : Env := launch0.env 0 0 0
theorem w_frames : about1.frames = Frame.invoking theMethod args0 :: below0 := rfl
set_option maxRecDepth 65536 in
theorem w_args : argsFit about1.vm theMethod args0 = true := by decide +kernel
set_option maxRecDepth 65536 in
theorem w_heap : heapFits about1 = true := by decide +kernel
set_option maxRecDepth 65536 in
theorem w_runnable : about1.curStatus? = some .runnable := by decide +kernel
set_option maxRecDepth 65536 in
theorem w_alone : about1.alone = true := by decide +kernel
set_option maxRecDepth 65536 in
theorem w_named : about1.methodNamed? x = some theMethod := by decide +kernel
set_option maxRecDepth 65536 in
theorem w_hears : about1.hears theMethod below0 = true := by decide +kernel
set_option maxRecDepth 65536 in
theorem w_ripe : about1.ripe theMethod args0 below0 = true := by decide +kernel
theorem w_running : about1.status = .running := rfl
set_option maxRecDepth 65536 in
theorem w_room : about1.hasRoom e0.platform room_1 = true :=
  launch0.hasRoom_least _ room_1 (by decide +kernel) (by decide +kernel) (by decide +kernel) (by decide +kernel) (by decide +kernel) (by decide +kernel)
theorem allAtoms_all (ts : List Jvm.Cond) (a : Array Jvm.Value) (st : Jvm.State) : (allAtoms ts).before a st = ts.all (fun c => c.before a st) := by
  induction ts with
  | nil => rfl
  | cons c t ih =>
    show (Jvm.Cond.and c (allAtoms t)).before a st = _
    rw [Jvm.Cond.before_and, ih, List.all_cons]
def words1 : List Jvm.Cond := Jvm.Cond.code x code maxLocals ret :: tables_1
/-- a 'code' word, met by the world's own term for the bytes: nothing is compared byte by byte -/
theorem code_word {y : MethodName} {bytes : ByteArray} {mx : Nat} {rt : Option FieldType} {a : Array Value} {s : State} {m : MethodId} {meth : Method} {c : Code} (h1 : s.methodNamed? y = some m) (h2 : s.vm.method? m = some meth) (h3 : meth.code = some c) (h4 : c.code = bytes)
    (h5 : (c.maxLocals == mx && c.exceptionTable.isEmpty && decide (c.maxStack ≤ mostOperands) && decide (meth.sig.returnType = rt) && !meth.locks && decide (parseMethodDescriptor y.desc = some meth.sig)) = true) : (Jvm.Cond.code y bytes mx rt).before a s = true := by
  simp only [Bool.and_eq_true, beq_iff_eq, Bool.not_eq_true', decide_eq_true_eq] at h5
  obtain ⟨⟨⟨⟨⟨g1, g2⟩, g3⟩, g4⟩, g5⟩, g6⟩ := h5
  simp [Cond.before, Cond.holds, Cond.value, h1, h2, h3, h4, g1, g2, g3, g4, g5, g6]
def isCode : Jvm.Cond → Bool
  | .code _ _ _ _ => true
  | _ => false
theorem all_split {L : List Jvm.Cond} {P : Jvm.Cond → Bool} (h1 : L.all (fun c => isCode c || P c) = true) (h2 : ∀ c ∈ L.filter isCode, P c = true) : L.all P = true := by
  refine List.all_eq_true.mpr fun c hc => ?_
  have h := List.all_eq_true.mp h1 c hc
  rcases Bool.eq_false_or_eq_true (isCode c) with hi | hi
  · exact h2 c (List.mem_filter.mpr ⟨hc, hi⟩)
  · simpa [hi] using h
set_option maxRecDepth 65536 in
theorem w_c0 : (Jvm.Cond.code x code maxLocals ret).before args0 about1 = true := code_word (m := ⟨1, 1⟩) (meth := k1m1) (c := k1c1) (by decide +kernel) rfl rfl rfl (by decide +kernel)
set_option maxRecDepth 65536 in
theorem w_c1 : (Jvm.Cond.code ({ cls := "com/example/bridge/bridge/Multisets", name := "fits", desc := "([I[I)Z" } : Jvm.MethodName) prog_97_method_3_code (5 : Nat) (Option.some Jvm.ClassFile.FieldType.boolean)).before args0 about1 = true := code_word (m := ⟨2, 1⟩) (meth := k2m1) (c := k2c1) (by decide +kernel) rfl rfl rfl (by decide +kernel)
set_option maxRecDepth 65536 in
theorem w_c2 : (Jvm.Cond.code ({ cls := "com/example/bridge/bridge/MultisetsFitsPinLaw", name := "mult", desc := "(IIIII)I" } : Jvm.MethodName) method_3_code (6 : Nat) (Option.some Jvm.ClassFile.FieldType.int)).before args0 about1 = true := code_word (m := ⟨1, 2⟩) (meth := k1m2) (c := k1c2) (by decide +kernel) rfl rfl rfl (by decide +kernel)
set_option maxRecDepth 65536 in
theorem w_c3 : (Jvm.Cond.code ({ cls := "com/example/bridge/bridge/MultisetsFitsPinLaw", name := "avail", desc := "(IIIIII)I" } : Jvm.MethodName) method_4_code (6 : Nat) (Option.some Jvm.ClassFile.FieldType.int)).before args0 about1 = true := code_word (m := ⟨1, 3⟩) (meth := k1m3) (c := k1c3) (by decide +kernel) rfl rfl rfl (by decide +kernel)
def codes1 : List Jvm.Cond := [Jvm.Cond.code x code maxLocals ret, Jvm.Cond.code ({ cls := "com/example/bridge/bridge/Multisets", name := "fits", desc := "([I[I)Z" } : Jvm.MethodName) prog_97_method_3_code (5 : Nat) (Option.some Jvm.ClassFile.FieldType.boolean), Jvm.Cond.code ({ cls := "com/example/bridge/bridge/MultisetsFitsPinLaw", name := "mult", desc := "(IIIII)I" } : Jvm.MethodName) method_3_code (6 : Nat) (Option.some Jvm.ClassFile.FieldType.int), Jvm.Cond.code ({ cls := "com/example/bridge/bridge/MultisetsFitsPinLaw", name := "avail", desc := "(IIIIII)I" } : Jvm.MethodName) method_4_code (6 : Nat) (Option.some Jvm.ClassFile.FieldType.int)]
set_option maxRecDepth 65536 in
theorem codes_eq : words1.filter isCode = codes1 := rfl
theorem w_codes : ∀ c ∈ words1.filter isCode, c.before args0 about1 = true := by
  rw [codes_eq]
  intro c hc
  simp only [codes1, List.mem_cons, List.not_mem_nil, or_false] at hc
  rcases hc with rfl | rfl | rfl | rfl
  · exact w_c0
  · exact w_c1
  · exact w_c2
  · exact w_c3
set_option maxRecDepth 65536 in
theorem w_t1 : words1.all (fun c => isCode c || c.before args0 about1) = true := by decide +kernel
theorem w_tables : (allAtoms (Jvm.Cond.code x code maxLocals ret :: tables_1)).before args0 about1 = true := by
  rw [allAtoms_all]
  show words1.all (fun c => c.before args0 about1) = true
  refine all_split ?_ w_codes
  rw [w_t1]
set_option maxRecDepth 65536 in
theorem w_case : (Jvm.Cond.and given_1 narrow_1).before args0 about1 = true := by decide +kernel
theorem w_applies : (headSpec (Jvm.Cond.code x code maxLocals ret :: tables_1) room_1).applies x e0.platform about1 = true :=
  (Spec.applies_iff w_frames).mpr ⟨w_running, w_runnable, w_alone, w_named, w_hears, w_ripe, w_room, w_tables⟩
theorem atStart : AtStart classFile x code maxLocals ret World_1 tables_1 room_1 Calls_1 rest_1 Pre_1 launch0 p0 e0 about1 theMethod args0 below0 :=
  ⟨lists_1, trivial, launch0.admits_env _ _ _, launch0.least_env, fairChoices_fair.cas, fairChoices_fair.clock, w_frames, w_args, w_heap, w_applies, trivial, trivial, w_case⟩
end start1
theorem witness_1 : WitnessClaimed_1 := ⟨start1.p0, start1.e0, start1.about1, start1.theMethod, start1.args0, start1.below0, start1.atStart⟩
end Jvm.Pilot.@@N@@
