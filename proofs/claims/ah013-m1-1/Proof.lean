import JvmDerived
import JvmDerived.Pilot.@@N@@Statement
import JvmDerived.Pilot.@@N@@Code
set_option linter.unusedVariables false
set_option linter.unusedSimpArgs false
@@BLOCK:NumsL.lean.txt@@
namespace Jvm.Own
open Sem ClassFile Op Lib Jvm.Stand Jvm.Free Jvm.LawKit Jvm.RoadKit
/-- what is known of one object made since the law began: an array with all its values, or an object with some of its fields -/
abbrev D : Type := Sum (FieldType × List Value) (String × List ((String × String × String) × Value))
abbrev Hp : Type := List (Nat × D)
abbrev ia (xs : List Int32) : D := .inl (.int, xs.map Value.int)
abbrev la (xs : List Int64) : D := .inl (.long, xs.map Value.long)
abbrev ba (xs : List Int32) : D := .inl (.byte, xs.map Value.int)
def OkD (Z : State) (h : Heap) (a : Nat) (d : D) : Prop :=
  match d with
  | .inl q => ∃ c : Cell, Arr Z h a c q.1 ∧ c.slots = q.2.toArray ∧ Exa Z h a ("[" ++ q.1.toString)
  | .inr q => Exa Z h a q.1 ∧ ∀ (j : Nat) (f : (String × String × String) × Value), q.2[j]? = some f → Fld Z h a f.1.1 f.1.2.1 f.1.2.2 f.2
def HL (Z : State) (h0 : Heap) (ds : Hp) (h : Heap) : Prop :=
  Ext h0 h ∧ (∀ (i : Nat) (q : Nat × D), ds[i]? = some q → h0.size ≤ q.1 ∧ OkD Z h q.1 q.2) ∧ ∀ (i j : Nat) (q r : Nat × D), ds[i]? = some q → ds[j]? = some r → q.1 = r.1 → i = j
theorem OkD.lt {Z : State} {h : Heap} {a : Nat} {d : D} (O : OkD Z h a d) : a < h.size := by
  cases d with
  | inl q => obtain ⟨c, A, -⟩ := O; exact A.lt
  | inr q => exact O.1.lt
theorem OkD.ext {Z : State} {h h' : Heap} {a : Nat} {d : D} (E : Ext h h') (O : OkD Z h a d) : OkD Z h' a d := by
  cases d with
  | inl q => obtain ⟨c, A, S, X⟩ := O; exact ⟨c, A.ext E, S, X.ext E⟩
  | inr q => exact ⟨O.1.ext E, fun j f hf => (O.2 j f hf).ext E⟩
theorem OkD.other {Z : State} {h h' : Heap} {a b : Nat} {d : D} {sl : Nat} {v : Value} (W : Wr h h' a sl v) (O : OkD Z h b d) (hne : b ≠ a) : OkD Z h' b d := by
  cases d with
  | inl q => obtain ⟨c, A, S, X⟩ := O; exact ⟨c, A.other W hne, S, X.wr W⟩
  | inr q => exact ⟨O.1.wr W, fun j f hf => (O.2 j f hf).other W (Or.inl hne)⟩
theorem HL.nil (Z : State) (h0 : Heap) : HL Z h0 [] h0 :=
  ⟨⟨Nat.le_refl _, fun _ _ q => q⟩, fun i q hq => by simp at hq, fun i j q r hq => by simp at hq⟩
theorem HL.lts {Z : State} {h0 h : Heap} {ds : Hp} (H : HL Z h0 ds h) : ∀ q ∈ ds, q.1 < h.size := fun q hq => by
  obtain ⟨i, hi⟩ := List.mem_iff_getElem?.mp hq
  exact (H.2.1 i q hi).2.lt
theorem HL.new {Z : State} {h0 h h' : Heap} {ds : Hp} {d : D} (H : HL Z h0 ds h) (E : Ext h h') (O : OkD Z h' h.size d) : HL Z h0 (ds ++ [(h.size, d)]) h' := by
  refine ⟨⟨Nat.le_trans H.1.1 E.1, fun a c q => E.2 a c (H.1.2 a c q)⟩, fun i q hq => ?_, fun i j q r hq hr he => ?_⟩
  · rcases Nat.lt_or_ge i ds.length with hi | hi
    · rw [List.getElem?_append_left hi] at hq
      exact ⟨(H.2.1 i q hq).1, (H.2.1 i q hq).2.ext E⟩
    · rw [List.getElem?_append_right hi] at hq
      obtain ⟨hz, rfl⟩ : i - ds.length = 0 ∧ (h.size, d) = q := by
        rcases Nat.eq_zero_or_pos (i - ds.length) with z | z
        · rw [z] at hq; exact ⟨z, by simpa using hq⟩
        · rw [List.getElem?_eq_none (by simp; omega)] at hq; cases hq
      exact ⟨H.1.1, O⟩
  · have key : ∀ i (q : Nat × D), (ds ++ [(h.size, d)])[i]? = some q → (i < ds.length ∧ ds[i]? = some q ∧ q.1 < h.size) ∨ (i = ds.length ∧ q.1 = h.size) := fun i q hq => by
      rcases Nat.lt_or_ge i ds.length with hi | hi
      · rw [List.getElem?_append_left hi] at hq
        exact Or.inl ⟨hi, hq, (H.2.1 i q hq).2.lt⟩
      · rw [List.getElem?_append_right hi] at hq
        rcases Nat.eq_zero_or_pos (i - ds.length) with z | z
        · rw [z] at hq
          have e : (h.size, d) = q := by simpa using hq
          exact Or.inr ⟨by omega, by rw [← e]⟩
        · rw [List.getElem?_eq_none (by simp; omega)] at hq; cases hq
    rcases key i q hq with ⟨-, a2, a3⟩ | ⟨a1, a2⟩ <;> rcases key j r hr with ⟨-, b2, b3⟩ | ⟨b1, b2⟩
    · exact H.2.2 i j q r a2 b2 he
    · omega
    · omega
    · omega
theorem HL.set {Z : State} {h0 h h' : Heap} {ds : Hp} {i a sl : Nat} {d d' : D} {v : Value} (H : HL Z h0 ds h) (ha : ds[i]? = some (a, d)) (W : Wr h h' a sl v) (O : OkD Z h' a d') : HL Z h0 (ds.set i (a, d')) h' := by
  have hge := (H.2.1 i _ ha).1
  have hi : i < ds.length := (List.getElem?_eq_some_iff.mp ha).1
  have key : ∀ j (q : Nat × D), (ds.set i (a, d'))[j]? = some q → (j = i ∧ q = (a, d')) ∨ (j ≠ i ∧ ds[j]? = some q) := fun j q hq => by
    rw [List.getElem?_set] at hq
    by_cases e : i = j
    · subst e; rw [if_pos rfl, if_pos hi] at hq; exact Or.inl ⟨rfl, (Option.some.inj hq).symm⟩
    · rw [if_neg e] at hq; exact Or.inr ⟨fun x => e x.symm, hq⟩
  refine ⟨⟨by rw [W.size]; exact H.1.1, fun b c q => ?_⟩, fun j q hq => ?_, fun j k q r hq hr he => ?_⟩
  · have hb := H.1.2 b c q
    obtain ⟨c', e1, -, -, -, e5, -⟩ := wr_at W hb
    have hlt : b < h0.size := (Array.getElem?_eq_some_iff.mp q).1
    rw [← e5 (fun e => by subst e; exact absurd hlt (Nat.not_lt.mpr hge))]; exact e1
  · rcases key j q hq with ⟨-, rfl⟩ | ⟨hne, hq'⟩
    · exact ⟨hge, O⟩
    · exact ⟨(H.2.1 j q hq').1, (H.2.1 j q hq').2.other W fun e => hne (H.2.2 j i q _ hq' ha e)⟩
  · have ad : ∀ j (q : Nat × D), (ds.set i (a, d'))[j]? = some q → ∃ q' : Nat × D, ds[j]? = some q' ∧ q'.1 = q.1 := fun j q hq => by
      rcases key j q hq with ⟨rfl, rfl⟩ | ⟨-, hq'⟩
      · exact ⟨_, ha, rfl⟩
      · exact ⟨q, hq', rfl⟩
    obtain ⟨q', a1, a2⟩ := ad j q hq
    obtain ⟨r', b1, b2⟩ := ad k r hr
    exact H.2.2 j k q' r' a1 b1 (by rw [a2, b2]; exact he)
abbrev Cx : Type := Program × Launch × Env × Room × State × MethodId × Array Value × List Frame × Method × Code × State × Heap
/-- FROM HERE THE BODY RUNS TO ITS RETURN, and what it returns and leaves is as Q says -/
def Go (W : Cx) (Q : Option Value → Hp → Prop) (ds : Hp) (k n pc : Nat) (Ls : Array Slot) (st : List Value) : Prop :=
  match W with
  | (p, l, e, R, s, m, args, below, meth, c, Z, h0) =>
    ∀ (T : State) (L : List Loc), Fr h0.size L → Stand p l e R s m args below meth c T L k n → HL Z h0 ds T.heap →
      ∃ (s₂ : State) (v : Option Value), Steps p.tables e below (T.setTop (mkF m pc Ls st)) s₂ ∧ s₂.status = .running ∧ Ended s₂ below (.returned v) ∧
        ∃ (L' : List Loc) (ds' : Hp), Fr h0.size L' ∧ HL Z h0 ds' s₂.heap ∧ Q v ds' ∧ FrameEnd s (.returned v) s₂ L' R.cells R.slots
/-- what a body's walk knows -/
def Ok (W : Cx) (B : ByteArray) (y : MethodName) (rm : Room) (mL : Nat) (ret : Option FieldType) (l : Launch) (Z : State) (h0 : Heap) : Prop :=
  match W with
  | (p, l', _, R, s, m, _, _, meth, c, Z', h0') => p.tables.exec = Jvm.exec ∧ Z.Warmed39 s.vm ∧ c.code = B ∧ c.maxLocals = mL ∧ s.vm.findClass y.cls = some m.cls ∧ meth.sig.returnType = ret ∧ meth.locks = false ∧ meth.name = y.name ∧ R = rm ∧ l' = l ∧ Z' = Z ∧ h0' = h0
def Ct (l : Launch) (Z : State) (h0 : Heap) (y : MethodName) (B : ByteArray) (mL : Nat) (ret : Option FieldType) (ws : List Jvm.Cond) (rm : Room) (as : Array Value) (ds : Hp) (Q : Option Value → Hp → Prop) : Prop :=
  ∀ h, HL Z h0 ds h → MetFree l y (head1 (Jvm.Cond.code y B mL ret :: ws) rm) (fun a U => a = as ∧ Z.Warmed39 U.vm ∧ U.heap = h) (fun _ _ _ _ _ => True)
    (fun _ U o U' => ∃ v L, o = .returned v ∧ (Fr h0.size L ∧ ∃ ds', HL Z h0 ds' U'.heap ∧ Q v ds') ∧ FrameEnd U o U' L rm.cells rm.slots)
theorem Ct.of_go {l : Launch} {Z : State} {h0 : Heap} {y : MethodName} {B : ByteArray} {mL : Nat} {ret : Option FieldType} {ws : List Jvm.Cond} {rm : Room} {as : Array Value} {ds : Hp} {Q : Option Value → Hp → Prop} {Ls : Array Slot}
    (hpn : plainFor y = true) (ef : ∀ m, entryFrame m as mL = mkF m 0 Ls []) (body : ∀ W, Ok W B y rm mL ret l Z h0 → Go W Q ds 0 0 0 Ls []) : Ct l Z h0 y B mL ret ws rm as ds Q := by
  intro h H
  refine MetFree.of_bodySF hpn hisR ?_
  intro p e s m args below meth c s₁ Bd hml0 hP hK
  obtain ⟨rfl, hZ, hh⟩ := hP
  have X0 : Stand p l e rm s m args below meth c s₁ [] 0 0 := Stand.of_body Bd
  have e0 : s₁.heap = h := by rw [← hh, Bd.state]; rfl
  obtain ⟨s₂, v, h1, h2, h3, L', ds', h4, h5, h6, h7⟩ := body (p, l, e, rm, s, m, args, below, meth, c, Z, h0) ⟨Bd.exec, hZ, Bd.bytes, hml0, findClass_of_methodNamed Bd.named, Bd.returns, Bd.notSynchronized, (name_of_methodNamed Bd.named Bd.method).1, rfl, rfl, rfl, rfl⟩ s₁ [] (Fr.nil _) X0 (by rw [e0]; exact H)
  exact ⟨s₂, .returned v, castTop (ef m) h1, h2, h3, v, L', rfl, ⟨h4, ds', h5, h6⟩, h7⟩
theorem Ct.mono {l : Launch} {Z : State} {h0 : Heap} {y : MethodName} {B : ByteArray} {mL : Nat} {ret : Option FieldType} {ws : List Jvm.Cond} {rm : Room} {as : Array Value} {ds : Hp} {Q Q' : Option Value → Hp → Prop}
    (h : Ct l Z h0 y B mL ret ws rm as ds Q) (f : ∀ v ds', Q v ds' → Q' v ds') : Ct l Z h0 y B mL ret ws rm as ds Q' := by
  intro hp H p e ha hc hk s m args below hf happ hP hK
  obtain ⟨n, o, h1, h2, h3, v, L, h4, ⟨h5, ds', h6, h7⟩, h8⟩ := h hp H p e ha hc hk s m args below hf happ hP hK
  exact ⟨n, o, h1, h2, h3, v, L, h4, ⟨h5, ds', h6, f _ _ h7⟩, h8⟩
section Steps
variable {W : Cx} {B : ByteArray} {y : MethodName} {rm : Room} {mL : Nat} {ret : Option FieldType} {l : Launch} {Z : State} {h0 : Heap} {Q : Option Value → Hp → Prop} {ds : Hp} {k n pc pc' : Nat} {Ls Ls' : Array Slot} {st st' : List Value} {a0 : Array Value}
theorem Go.mono {Q' : Option Value → Hp → Prop} (g : Go W Q ds k n pc Ls st) (f : ∀ v ds', Q v ds' → Q' v ds') : Go W Q' ds k n pc Ls st := by
  obtain ⟨p, l, e, R, s, m, args, below, meth, c, Z, h0⟩ := W
  intro T L N X H
  obtain ⟨s₂, v, h1, h2, h3, L', ds', h4, h5, h6, h7⟩ := g T L N X H
  exact ⟨s₂, v, h1, h2, h3, L', ds', h4, h5, f _ _ h6, h7⟩
theorem go_of (K : Ok W B y rm mL ret l Z h0)
    (f : ∀ {p : Program} {l : Launch} {e : Env} {R : Room} {s : State} {m : MethodId} {args : Array Value} {below : List Frame} {meth : Method} {c : Code} {T : State} {L : List Loc}, p.tables.exec = Jvm.exec → c.code = B → s.vm.findClass y.cls = some m.cls → Z.Warmed39 s.vm →
      Stand p l e R s m args below meth c T L k n → ∀ t, Steps p.tables e below (T.setTop (mkF m pc' Ls' st')) t → Steps p.tables e below (T.setTop (mkF m pc Ls st)) t)
    (hr : Go W Q ds k n pc' Ls' st') : Go W Q ds k n pc Ls st := by
  obtain ⟨p, l, e, R, s, m, args, below, meth, c, Z, h0⟩ := W
  obtain ⟨k1, k2, k3, k4, k5, k6, k7, k8, rfl, rfl, rfl, rfl⟩ := K
  intro T L N X H
  obtain ⟨s₂, v, h1, rest⟩ := hr T L N X H
  exact ⟨s₂, v, f k1 k3 k5 k2 X s₂ h1, rest⟩

theorem go_iload (K : Ok W B y rm mL ret l Z h0) {i : Nat} {v : Int32} (hd : decode B pc = .ok (.iload i, 2)) (hl : Ls[i]? = some (.val (.int v))) (hp : pc + 2 = pc')
    (hr : Go W Q ds k n pc' Ls (.int v :: st)) : Go W Q ds k n pc Ls st := by
  subst hp
  exact go_of K (fun hx hby hown hZ X t h => XS.iload X.here hx rfl (hb hby hd) hl h) hr
theorem go_aload (K : Ok W B y rm mL ret l Z h0) {i : Nat} {v : Value} (hd : decode B pc = .ok (.aload i, 2)) (hl : Ls[i]? = some (.val v)) (hv : v.isRef = true) (hp : pc + 2 = pc')
    (hr : Go W Q ds k n pc' Ls (v :: st)) : Go W Q ds k n pc Ls st := by
  subst hp
  exact go_of K (fun hx hby hown hZ X t h => XS.aload X.here hx rfl (hb hby hd) hl hv h) hr
theorem go_lload (K : Ok W B y rm mL ret l Z h0) {i : Nat} {v : Int64} (hd : decode B pc = .ok (.lload i, 2)) (hl : Ls[i]? = some (.val (.long v))) (hp : pc + 2 = pc')
    (hr : Go W Q ds k n pc' Ls (.long v :: st)) : Go W Q ds k n pc Ls st := by
  subst hp
  exact go_of K (fun hx hby hown hZ X t h => XT.lload X.here hx rfl (hb hby hd) hl h) hr
theorem go_istore (K : Ok W B y rm mL ret l Z h0) {i : Nat} {x : Int32} (hd : decode B pc = .ok (.istore i, 2)) (hl : storeLocals Ls i (.int x) = some Ls') (hp : pc + 2 = pc')
    (hr : Go W Q ds k n pc' Ls' st) : Go W Q ds k n pc Ls (.int x :: st) := by
  subst hp
  exact go_of K (fun hx hby hown hZ X t h => XS.istore X.here hx rfl (hb hby hd) rfl hl h) hr
theorem go_astore (K : Ok W B y rm mL ret l Z h0) {i : Nat} {x : Value} (hd : decode B pc = .ok (.astore i, 2)) (hv : x.isRef = true) (hl : storeLocals Ls i x = some Ls') (hp : pc + 2 = pc')
    (hr : Go W Q ds k n pc' Ls' st) : Go W Q ds k n pc Ls (x :: st) := by
  subst hp
  exact go_of K (fun hx hby hown hZ X t h => XS.astore X.here hx rfl (hb hby hd) rfl hv hl h) hr
theorem go_lstore (K : Ok W B y rm mL ret l Z h0) {i : Nat} {x : Int64} (hd : decode B pc = .ok (.lstore i, 2)) (hl : storeLocals Ls i (.long x) = some Ls') (hp : pc + 2 = pc')
    (hr : Go W Q ds k n pc' Ls' st) : Go W Q ds k n pc Ls (.long x :: st) := by
  subst hp
  exact go_of K (fun hx hby hown hZ X t h => XT.lstore X.here hx rfl (hb hby hd) rfl hl h) hr
theorem go_iloadN (K : Ok W B y rm mL ret l Z h0) {i : Fin 4} {v : Int32} (hd : decode B pc = .ok (.iload_n i, 1)) (hl : Ls[i.val]? = some (.val (.int v))) (hp : pc + 1 = pc')
    (hr : Go W Q ds k n pc' Ls (.int v :: st)) : Go W Q ds k n pc Ls st := by
  subst hp
  exact go_of K (fun hx hby hown hZ X t h => XS.iloadN X.here hx rfl (hb hby hd) hl h) hr
theorem go_aloadN (K : Ok W B y rm mL ret l Z h0) {i : Fin 4} {v : Value} (hd : decode B pc = .ok (.aload_n i, 1)) (hl : Ls[i.val]? = some (.val v)) (hv : v.isRef = true) (hp : pc + 1 = pc')
    (hr : Go W Q ds k n pc' Ls (v :: st)) : Go W Q ds k n pc Ls st := by
  subst hp
  exact go_of K (fun hx hby hown hZ X t h => XS.aloadN X.here hx rfl (hb hby hd) hl hv h) hr
theorem go_lloadN (K : Ok W B y rm mL ret l Z h0) {i : Fin 4} {v : Int64} (hd : decode B pc = .ok (.lload_n i, 1)) (hl : Ls[i.val]? = some (.val (.long v))) (hp : pc + 1 = pc')
    (hr : Go W Q ds k n pc' Ls (.long v :: st)) : Go W Q ds k n pc Ls st := by
  subst hp
  exact go_of K (fun hx hby hown hZ X t h => XT.lloadN X.here hx rfl (hb hby hd) hl h) hr
theorem go_istoreN (K : Ok W B y rm mL ret l Z h0) {i : Fin 4} {x : Int32} (hd : decode B pc = .ok (.istore_n i, 1)) (hl : storeLocals Ls i.val (.int x) = some Ls') (hp : pc + 1 = pc')
    (hr : Go W Q ds k n pc' Ls' st) : Go W Q ds k n pc Ls (.int x :: st) := by
  subst hp
  exact go_of K (fun hx hby hown hZ X t h => XS.istoreN X.here hx rfl (hb hby hd) rfl hl h) hr
theorem go_astoreN (K : Ok W B y rm mL ret l Z h0) {i : Fin 4} {x : Value} (hd : decode B pc = .ok (.astore_n i, 1)) (hv : x.isRef = true) (hl : storeLocals Ls i.val x = some Ls') (hp : pc + 1 = pc')
    (hr : Go W Q ds k n pc' Ls' st) : Go W Q ds k n pc Ls (x :: st) := by
  subst hp
  exact go_of K (fun hx hby hown hZ X t h => XS.astoreN X.here hx rfl (hb hby hd) rfl hv hl h) hr
theorem go_lstoreN (K : Ok W B y rm mL ret l Z h0) {i : Fin 4} {x : Int64} (hd : decode B pc = .ok (.lstore_n i, 1)) (hl : storeLocals Ls i.val (.long x) = some Ls') (hp : pc + 1 = pc')
    (hr : Go W Q ds k n pc' Ls' st) : Go W Q ds k n pc Ls (.long x :: st) := by
  subst hp
  exact go_of K (fun hx hby hown hZ X t h => XT.lstoreN X.here hx rfl (hb hby hd) rfl hl h) hr
theorem go_iconst (K : Ok W B y rm mL ret l Z h0) {i : Int} {v : Int32} (hd : decode B pc = .ok (.iconst i, 1)) (hv : Int32.ofInt i = v) (hp : pc + 1 = pc')
    (hr : Go W Q ds k n pc' Ls (.int v :: st)) : Go W Q ds k n pc Ls st := by
  subst hp
  exact go_of K (fun hx hby hown hZ X t h => XT.iconstV X.here hx rfl v (hb hby hd) hv h) hr
theorem go_bipush (K : Ok W B y rm mL ret l Z h0) {i : Int} {v : Int32} (hd : decode B pc = .ok (.bipush i, 2)) (hv : (Int8.ofInt i).toInt32 = v) (hp : pc + 2 = pc')
    (hr : Go W Q ds k n pc' Ls (.int v :: st)) : Go W Q ds k n pc Ls st := by
  subst hp
  exact go_of K (fun hx hby hown hZ X t h => XT.bipushV X.here hx rfl v (hb hby hd) hv h) hr
theorem go_sipush (K : Ok W B y rm mL ret l Z h0) {i : Int} {v : Int32} (hd : decode B pc = .ok (.sipush i, 3)) (hv : (Int16.ofInt i).toInt32 = v) (hp : pc + 3 = pc')
    (hr : Go W Q ds k n pc' Ls (.int v :: st)) : Go W Q ds k n pc Ls st := by
  subst hp
  exact go_of K (fun hx hby hown hZ X t h => XT.sipushV X.here hx rfl v (hb hby hd) hv h) hr
theorem go_lconst (K : Ok W B y rm mL ret l Z h0) {i : Fin 2} {v : Int64} (hd : decode B pc = .ok (.lconst i, 1)) (hv : Int64.ofNat i = v) (hp : pc + 1 = pc')
    (hr : Go W Q ds k n pc' Ls (.long v :: st)) : Go W Q ds k n pc Ls st := by
  subst hp
  exact go_of K (fun hx hby hown hZ X t h => XT.lconstV X.here hx rfl v (hb hby hd) hv h) hr
theorem go_null (K : Ok W B y rm mL ret l Z h0)  (hd : decode B pc = .ok (.aconst_null, 1))  (hp : pc + 1 = pc')
    (hr : Go W Q ds k n pc' Ls (.null :: st)) : Go W Q ds k n pc Ls st := by
  subst hp
  exact go_of K (fun hx hby hown hZ X t h => XS.aconstNull X.here hx rfl (hb hby hd) h) hr
theorem go_iadd (K : Ok W B y rm mL ret l Z h0) {x z : Int32} (hd : decode B pc = .ok (.iadd, 1))  (hp : pc + 1 = pc')
    (hr : Go W Q ds k n pc' Ls (.int (x + z) :: st)) : Go W Q ds k n pc Ls (.int z :: .int x :: st) := by
  subst hp
  exact go_of K (fun hx hby hown hZ X t h => XS.iadd X.here hx rfl (hb hby hd) rfl h) hr
theorem go_isub (K : Ok W B y rm mL ret l Z h0) {x z : Int32} (hd : decode B pc = .ok (.isub, 1))  (hp : pc + 1 = pc')
    (hr : Go W Q ds k n pc' Ls (.int (x - z) :: st)) : Go W Q ds k n pc Ls (.int z :: .int x :: st) := by
  subst hp
  exact go_of K (fun hx hby hown hZ X t h => XS.isub X.here hx rfl (hb hby hd) rfl h) hr
theorem go_imul (K : Ok W B y rm mL ret l Z h0) {x z : Int32} (hd : decode B pc = .ok (.imul, 1))  (hp : pc + 1 = pc')
    (hr : Go W Q ds k n pc' Ls (.int (x * z) :: st)) : Go W Q ds k n pc Ls (.int z :: .int x :: st) := by
  subst hp
  exact go_of K (fun hx hby hown hZ X t h => XS.imul X.here hx rfl (hb hby hd) rfl h) hr
theorem go_iand (K : Ok W B y rm mL ret l Z h0) {x z : Int32} (hd : decode B pc = .ok (.iand, 1))  (hp : pc + 1 = pc')
    (hr : Go W Q ds k n pc' Ls (.int (x &&& z) :: st)) : Go W Q ds k n pc Ls (.int z :: .int x :: st) := by
  subst hp
  exact go_of K (fun hx hby hown hZ X t h => XS.iand X.here hx rfl (hb hby hd) rfl h) hr
theorem go_ior (K : Ok W B y rm mL ret l Z h0) {x z : Int32} (hd : decode B pc = .ok (.ior, 1))  (hp : pc + 1 = pc')
    (hr : Go W Q ds k n pc' Ls (.int (x ||| z) :: st)) : Go W Q ds k n pc Ls (.int z :: .int x :: st) := by
  subst hp
  exact go_of K (fun hx hby hown hZ X t h => XT.ior X.here hx rfl (hb hby hd) rfl h) hr
theorem go_ixor (K : Ok W B y rm mL ret l Z h0) {x z : Int32} (hd : decode B pc = .ok (.ixor, 1))  (hp : pc + 1 = pc')
    (hr : Go W Q ds k n pc' Ls (.int (x ^^^ z) :: st)) : Go W Q ds k n pc Ls (.int z :: .int x :: st) := by
  subst hp
  exact go_of K (fun hx hby hown hZ X t h => XT.ixor X.here hx rfl (hb hby hd) rfl h) hr
theorem go_ishl (K : Ok W B y rm mL ret l Z h0) {x z : Int32} (hd : decode B pc = .ok (.ishl, 1))  (hp : pc + 1 = pc')
    (hr : Go W Q ds k n pc' Ls (.int (x <<< (z &&& 31)) :: st)) : Go W Q ds k n pc Ls (.int z :: .int x :: st) := by
  subst hp
  exact go_of K (fun hx hby hown hZ X t h => XT.ishl X.here hx rfl (hb hby hd) rfl h) hr
theorem go_ishr (K : Ok W B y rm mL ret l Z h0) {x z : Int32} (hd : decode B pc = .ok (.ishr, 1))  (hp : pc + 1 = pc')
    (hr : Go W Q ds k n pc' Ls (.int (x >>> (z &&& 31)) :: st)) : Go W Q ds k n pc Ls (.int z :: .int x :: st) := by
  subst hp
  exact go_of K (fun hx hby hown hZ X t h => XT.ishr X.here hx rfl (hb hby hd) rfl h) hr
theorem go_iushr (K : Ok W B y rm mL ret l Z h0) {x z : Int32} (hd : decode B pc = .ok (.iushr, 1))  (hp : pc + 1 = pc')
    (hr : Go W Q ds k n pc' Ls (.int (XT.ushr x z) :: st)) : Go W Q ds k n pc Ls (.int z :: .int x :: st) := by
  subst hp
  exact go_of K (fun hx hby hown hZ X t h => XT.iushr X.here hx rfl (hb hby hd) rfl h) hr
theorem go_ladd (K : Ok W B y rm mL ret l Z h0) {x z : Int64} (hd : decode B pc = .ok (.ladd, 1))  (hp : pc + 1 = pc')
    (hr : Go W Q ds k n pc' Ls (.long (x + z) :: st)) : Go W Q ds k n pc Ls (.long z :: .long x :: st) := by
  subst hp
  exact go_of K (fun hx hby hown hZ X t h => XT.ladd X.here hx rfl (hb hby hd) rfl h) hr
theorem go_lsub (K : Ok W B y rm mL ret l Z h0) {x z : Int64} (hd : decode B pc = .ok (.lsub, 1))  (hp : pc + 1 = pc')
    (hr : Go W Q ds k n pc' Ls (.long (x - z) :: st)) : Go W Q ds k n pc Ls (.long z :: .long x :: st) := by
  subst hp
  exact go_of K (fun hx hby hown hZ X t h => XT.lsub X.here hx rfl (hb hby hd) rfl h) hr
theorem go_lmul (K : Ok W B y rm mL ret l Z h0) {x z : Int64} (hd : decode B pc = .ok (.lmul, 1))  (hp : pc + 1 = pc')
    (hr : Go W Q ds k n pc' Ls (.long (x * z) :: st)) : Go W Q ds k n pc Ls (.long z :: .long x :: st) := by
  subst hp
  exact go_of K (fun hx hby hown hZ X t h => XT.lmul X.here hx rfl (hb hby hd) rfl h) hr
theorem go_land (K : Ok W B y rm mL ret l Z h0) {x z : Int64} (hd : decode B pc = .ok (.land, 1))  (hp : pc + 1 = pc')
    (hr : Go W Q ds k n pc' Ls (.long (x &&& z) :: st)) : Go W Q ds k n pc Ls (.long z :: .long x :: st) := by
  subst hp
  exact go_of K (fun hx hby hown hZ X t h => XT.land X.here hx rfl (hb hby hd) rfl h) hr
theorem go_lor (K : Ok W B y rm mL ret l Z h0) {x z : Int64} (hd : decode B pc = .ok (.lor, 1))  (hp : pc + 1 = pc')
    (hr : Go W Q ds k n pc' Ls (.long (x ||| z) :: st)) : Go W Q ds k n pc Ls (.long z :: .long x :: st) := by
  subst hp
  exact go_of K (fun hx hby hown hZ X t h => XT.lor X.here hx rfl (hb hby hd) rfl h) hr
theorem go_lxor (K : Ok W B y rm mL ret l Z h0) {x z : Int64} (hd : decode B pc = .ok (.lxor, 1))  (hp : pc + 1 = pc')
    (hr : Go W Q ds k n pc' Ls (.long (x ^^^ z) :: st)) : Go W Q ds k n pc Ls (.long z :: .long x :: st) := by
  subst hp
  exact go_of K (fun hx hby hown hZ X t h => XT.lxor X.here hx rfl (hb hby hd) rfl h) hr
theorem go_lshl (K : Ok W B y rm mL ret l Z h0) {x : Int64} {z : Int32} (hd : decode B pc = .ok (.lshl, 1))  (hp : pc + 1 = pc')
    (hr : Go W Q ds k n pc' Ls (.long (x <<< (z.toInt64 &&& 63)) :: st)) : Go W Q ds k n pc Ls (.int z :: .long x :: st) := by
  subst hp
  exact go_of K (fun hx hby hown hZ X t h => XT.lshl X.here hx rfl (hb hby hd) rfl h) hr
theorem go_lshr (K : Ok W B y rm mL ret l Z h0) {x : Int64} {z : Int32} (hd : decode B pc = .ok (.lshr, 1))  (hp : pc + 1 = pc')
    (hr : Go W Q ds k n pc' Ls (.long (x >>> (z.toInt64 &&& 63)) :: st)) : Go W Q ds k n pc Ls (.int z :: .long x :: st) := by
  subst hp
  exact go_of K (fun hx hby hown hZ X t h => XT.lshr X.here hx rfl (hb hby hd) rfl h) hr
theorem go_lushr (K : Ok W B y rm mL ret l Z h0) {x : Int64} {z : Int32} (hd : decode B pc = .ok (.lushr, 1))  (hp : pc + 1 = pc')
    (hr : Go W Q ds k n pc' Ls (.long (XT.ushrL x z) :: st)) : Go W Q ds k n pc Ls (.int z :: .long x :: st) := by
  subst hp
  exact go_of K (fun hx hby hown hZ X t h => XT.lushr X.here hx rfl (hb hby hd) rfl h) hr
theorem go_idiv (K : Ok W B y rm mL ret l Z h0) {x z : Int32} (hd : decode B pc = .ok (.idiv, 1)) (hz : z ≠ 0) (hp : pc + 1 = pc')
    (hr : Go W Q ds k n pc' Ls (.int (x / z) :: st)) : Go W Q ds k n pc Ls (.int z :: .int x :: st) := by
  subst hp
  exact go_of K (fun hx hby hown hZ X t h => XS.idiv X.here hx rfl (hb hby hd) rfl hz h) hr
theorem go_irem (K : Ok W B y rm mL ret l Z h0) {x z : Int32} (hd : decode B pc = .ok (.irem, 1)) (hz : z ≠ 0) (hp : pc + 1 = pc')
    (hr : Go W Q ds k n pc' Ls (.int (x % z) :: st)) : Go W Q ds k n pc Ls (.int z :: .int x :: st) := by
  subst hp
  exact go_of K (fun hx hby hown hZ X t h => iremM X hx rfl (hb hby hd) rfl hz h) hr
theorem go_ldiv (K : Ok W B y rm mL ret l Z h0) {x z : Int64} (hd : decode B pc = .ok (.ldiv, 1)) (hz : z ≠ 0) (hp : pc + 1 = pc')
    (hr : Go W Q ds k n pc' Ls (.long (x / z) :: st)) : Go W Q ds k n pc Ls (.long z :: .long x :: st) := by
  subst hp
  exact go_of K (fun hx hby hown hZ X t h => XT.ldiv X.here hx rfl (hb hby hd) rfl hz h) hr
theorem go_ineg (K : Ok W B y rm mL ret l Z h0) {x : Int32} (hd : decode B pc = .ok (.ineg, 1))  (hp : pc + 1 = pc')
    (hr : Go W Q ds k n pc' Ls (.int (-x) :: st)) : Go W Q ds k n pc Ls (.int x :: st) := by
  subst hp
  exact go_of K (fun hx hby hown hZ X t h => XS.ineg X.here hx rfl (hb hby hd) rfl h) hr
theorem go_i2l (K : Ok W B y rm mL ret l Z h0) {x : Int32} (hd : decode B pc = .ok (.i2l, 1))  (hp : pc + 1 = pc')
    (hr : Go W Q ds k n pc' Ls (.long x.toInt64 :: st)) : Go W Q ds k n pc Ls (.int x :: st) := by
  subst hp
  exact go_of K (fun hx hby hown hZ X t h => XT.i2l X.here hx rfl (hb hby hd) rfl h) hr
theorem go_l2i (K : Ok W B y rm mL ret l Z h0) {x : Int64} (hd : decode B pc = .ok (.l2i, 1))  (hp : pc + 1 = pc')
    (hr : Go W Q ds k n pc' Ls (.int x.toInt32 :: st)) : Go W Q ds k n pc Ls (.long x :: st) := by
  subst hp
  exact go_of K (fun hx hby hown hZ X t h => XT.l2i X.here hx rfl (hb hby hd) rfl h) hr
theorem go_i2b (K : Ok W B y rm mL ret l Z h0) {x : Int32} (hd : decode B pc = .ok (.i2b, 1))  (hp : pc + 1 = pc')
    (hr : Go W Q ds k n pc' Ls (.int x.toInt8.toInt32 :: st)) : Go W Q ds k n pc Ls (.int x :: st) := by
  subst hp
  exact go_of K (fun hx hby hown hZ X t h => XT.i2b X.here hx rfl (hb hby hd) rfl h) hr
theorem go_i2c (K : Ok W B y rm mL ret l Z h0) {x : Int32} (hd : decode B pc = .ok (.i2c, 1))  (hp : pc + 1 = pc')
    (hr : Go W Q ds k n pc' Ls (.int x.toUInt32.toUInt16.toUInt32.toInt32 :: st)) : Go W Q ds k n pc Ls (.int x :: st) := by
  subst hp
  exact go_of K (fun hx hby hown hZ X t h => XT.i2c X.here hx rfl (hb hby hd) rfl h) hr
theorem go_lcmp (K : Ok W B y rm mL ret l Z h0) {x z : Int64} (hd : decode B pc = .ok (.lcmp, 1))  (hp : pc + 1 = pc')
    (hr : Go W Q ds k n pc' Ls (.int (XT.cmpL x z) :: st)) : Go W Q ds k n pc Ls (.long z :: .long x :: st) := by
  subst hp
  exact go_of K (fun hx hby hown hZ X t h => XT.lcmp X.here hx rfl (hb hby hd) rfl h) hr
theorem go_pop (K : Ok W B y rm mL ret l Z h0) {x : Value} (hd : decode B pc = .ok (.pop, 1)) (hc : x.category = 1) (hp : pc + 1 = pc')
    (hr : Go W Q ds k n pc' Ls st) : Go W Q ds k n pc Ls (x :: st) := by
  subst hp
  exact go_of K (fun hx hby hown hZ X t h => XT.pop X.here hx rfl (hb hby hd) rfl hc h) hr
theorem go_dup (K : Ok W B y rm mL ret l Z h0) {x : Value} (hd : decode B pc = .ok (.dup, 1)) (hc : x.category = 1) (hp : pc + 1 = pc')
    (hr : Go W Q ds k n pc' Ls (x :: x :: st)) : Go W Q ds k n pc Ls (x :: st) := by
  subst hp
  exact go_of K (fun hx hby hown hZ X t h => XS.dup X.here hx rfl (hb hby hd) rfl hc h) hr
theorem go_dup_x1 (K : Ok W B y rm mL ret l Z h0) {x z : Value} (hd : decode B pc = .ok (.dup_x1, 1)) (hc : x.category = 1) (hc' : z.category = 1) (hp : pc + 1 = pc')
    (hr : Go W Q ds k n pc' Ls (x :: z :: x :: st)) : Go W Q ds k n pc Ls (x :: z :: st) := by
  subst hp
  exact go_of K (fun hx hby hown hZ X t h => XT.dupX1 X.here hx rfl (hb hby hd) rfl hc hc' h) hr
theorem go_dup2 (K : Ok W B y rm mL ret l Z h0) {x z : Value} (hd : decode B pc = .ok (.dup2, 1)) (hc : x.category = 1) (hc' : z.category = 1) (hp : pc + 1 = pc')
    (hr : Go W Q ds k n pc' Ls (x :: z :: x :: z :: st)) : Go W Q ds k n pc Ls (x :: z :: st) := by
  subst hp
  exact go_of K (fun hx hby hown hZ X t h => XT.dup2 X.here hx rfl (hb hby hd) rfl hc hc' h) hr
theorem go_iinc (K : Ok W B y rm mL ret l Z h0) {i : Nat} {cst : Int} {x v : Int32} (hd : decode B pc = .ok (.iinc i cst, 3)) (hv : Int32.ofInt cst = v) (hl : Ls[i]? = some (.val (.int x))) (hl' : storeLocals Ls i (.int (x + v)) = some Ls') (hp : pc + 3 = pc')
    (hr : Go W Q ds k n pc' Ls' st) : Go W Q ds k n pc Ls st := by
  subst hp
  exact go_of K (fun hx hby hown hZ X t h => XT.iincV X.here hx rfl v (hb hby hd) hv hl hl' h) hr
theorem go_ldc (K : Ok W B y rm mL ret l Z h0) {i : Nat} {v : Int32} (hd : decode B pc = .ok (.ldc i, 2)) (w : (Jvm.Cond.constant y.cls i v).before a0 Z = true) (hp : pc + 2 = pc')
    (hr : Go W Q ds k n pc' Ls (.int v :: st)) : Go W Q ds k n pc Ls st := by
  subst hp
  exact go_of K (fun hx hby hown hZ X t h => X.ldcI hx hown (mv hZ w) rfl (hb hby hd) h) hr
theorem go_ldc2 (K : Ok W B y rm mL ret l Z h0) {i : Nat} {v : Int64} (hd : decode B pc = .ok (.ldc2_w i, 3)) (w : (Jvm.Cond.constantLong y.cls i v).before a0 Z = true) (hp : pc + 3 = pc')
    (hr : Go W Q ds k n pc' Ls (.long v :: st)) : Go W Q ds k n pc Ls st := by
  subst hp
  exact go_of K (fun hx hby hown hZ X t h => X.ldc2J hx hown (mv hZ w) rfl (hb hby hd) h) hr
theorem go_goto (K : Ok W B y rm mL ret l Z h0) {o : Int} (hd : decode B pc = .ok (.goto o, 3)) (ho : 0 ≤ (pc : Int) + o) (hp : ((pc : Int) + o).toNat = pc')
    (hr : Go W Q ds k n pc' Ls st) : Go W Q ds k n pc Ls st :=
  go_of K (fun hx hby hown hZ X t h => XS.goto X.here hx rfl rfl (hb hby hd) ho hp h) hr
theorem go_ifY (K : Ok W B y rm mL ret l Z h0) {o : Int} {cd : ClassFile.Cond} {x : Int32} (hd : decode B pc = .ok (.ifCond cd o, 3)) (hc : ifCond.holds cd x = true) (ho : 0 ≤ (pc : Int) + o) (hp : ((pc : Int) + o).toNat = pc')
    (hr : Go W Q ds k n pc' Ls st) : Go W Q ds k n pc Ls (.int x :: st) :=
  go_of K (fun hx hby hown hZ X t h => XS.ifYes X.here hx rfl rfl (hb hby hd) rfl hc ho hp h) hr
theorem go_ifN (K : Ok W B y rm mL ret l Z h0) {o : Int} {cd : ClassFile.Cond} {x : Int32} (hd : decode B pc = .ok (.ifCond cd o, 3)) (hc : ifCond.holds cd x = false) (hp : pc + 3 = pc')
    (hr : Go W Q ds k n pc' Ls st) : Go W Q ds k n pc Ls (.int x :: st) := by
  subst hp
  exact go_of K (fun hx hby hown hZ X t h => XS.ifNo X.here hx rfl (hb hby hd) rfl hc h) hr
theorem go_icY (K : Ok W B y rm mL ret l Z h0) {o : Int} {cd : ClassFile.Cond} {x z : Int32} (hd : decode B pc = .ok (.if_icmp cd o, 3)) (hc : if_icmp.holds cd x z = true) (ho : 0 ≤ (pc : Int) + o) (hp : ((pc : Int) + o).toNat = pc')
    (hr : Go W Q ds k n pc' Ls st) : Go W Q ds k n pc Ls (.int z :: .int x :: st) :=
  go_of K (fun hx hby hown hZ X t h => XS.icmpYes X.here hx rfl rfl (hb hby hd) rfl hc ho hp h) hr
theorem go_icN (K : Ok W B y rm mL ret l Z h0) {o : Int} {cd : ClassFile.Cond} {x z : Int32} (hd : decode B pc = .ok (.if_icmp cd o, 3)) (hc : if_icmp.holds cd x z = false) (hp : pc + 3 = pc')
    (hr : Go W Q ds k n pc' Ls st) : Go W Q ds k n pc Ls (.int z :: .int x :: st) := by
  subst hp
  exact go_of K (fun hx hby hown hZ X t h => XS.icmpNo X.here hx rfl (hb hby hd) rfl hc h) hr

theorem go_if_eq_t (K : Ok W B y rm mL ret l Z h0) {o : Int} {x : Int32} (hd : decode B pc = .ok (.ifCond .eq o, 3)) (hc : x = 0) (ho : 0 ≤ (pc : Int) + o) (hp : ((pc : Int) + o).toNat = pc')
    (hr : Go W Q ds k n pc' Ls st) : Go W Q ds k n pc Ls (.int x :: st) := go_ifY K hd (XT.i0_eq_t hc) ho hp hr
theorem go_if_eq_f (K : Ok W B y rm mL ret l Z h0) {o : Int} {x : Int32} (hd : decode B pc = .ok (.ifCond .eq o, 3)) (hc : x ≠ 0) (hp : pc + 3 = pc')
    (hr : Go W Q ds k n pc' Ls st) : Go W Q ds k n pc Ls (.int x :: st) := go_ifN K hd (XT.i0_eq_f hc) hp hr
theorem go_if_eq (K : Ok W B y rm mL ret l Z h0) {o : Int} {x : Int32} {pt : Nat} (hd : decode B pc = .ok (.ifCond .eq o, 3)) (ho : 0 ≤ (pc : Int) + o) (ht : ((pc : Int) + o).toNat = pt) (hp : pc + 3 = pc')
    (hy : x = 0 → Go W Q ds k n pt Ls st) (hn : x ≠ 0 → Go W Q ds k n pc' Ls st) : Go W Q ds k n pc Ls (.int x :: st) := by
  by_cases hc : x = 0
  · exact go_if_eq_t K hd hc ho ht (hy hc)
  · exact go_if_eq_f K hd (by first | exact hc | exact Int.not_lt.mp hc | exact Int.not_le.mp hc | exact Decidable.not_not.mp hc) hp (hn (by first | exact hc | exact Int.not_lt.mp hc | exact Int.not_le.mp hc | exact Decidable.not_not.mp hc))
theorem go_ic_eq_t (K : Ok W B y rm mL ret l Z h0) {o : Int} {x z : Int32} (hd : decode B pc = .ok (.if_icmp .eq o, 3)) (hc : x = z) (ho : 0 ≤ (pc : Int) + o) (hp : ((pc : Int) + o).toNat = pc')
    (hr : Go W Q ds k n pc' Ls st) : Go W Q ds k n pc Ls (.int z :: .int x :: st) := go_icY K hd (XT.ii_eq_t hc) ho hp hr
theorem go_ic_eq_f (K : Ok W B y rm mL ret l Z h0) {o : Int} {x z : Int32} (hd : decode B pc = .ok (.if_icmp .eq o, 3)) (hc : x ≠ z) (hp : pc + 3 = pc')
    (hr : Go W Q ds k n pc' Ls st) : Go W Q ds k n pc Ls (.int z :: .int x :: st) := go_icN K hd (XT.ii_eq_f hc) hp hr
theorem go_ic_eq (K : Ok W B y rm mL ret l Z h0) {o : Int} {x z : Int32} {pt : Nat} (hd : decode B pc = .ok (.if_icmp .eq o, 3)) (ho : 0 ≤ (pc : Int) + o) (ht : ((pc : Int) + o).toNat = pt) (hp : pc + 3 = pc')
    (hy : x = z → Go W Q ds k n pt Ls st) (hn : x ≠ z → Go W Q ds k n pc' Ls st) : Go W Q ds k n pc Ls (.int z :: .int x :: st) := by
  by_cases hc : x = z
  · exact go_ic_eq_t K hd hc ho ht (hy hc)
  · exact go_ic_eq_f K hd (by first | exact hc | exact Int.not_lt.mp hc | exact Int.not_le.mp hc | exact Decidable.not_not.mp hc) hp (hn (by first | exact hc | exact Int.not_lt.mp hc | exact Int.not_le.mp hc | exact Decidable.not_not.mp hc))
theorem go_if_ne_t (K : Ok W B y rm mL ret l Z h0) {o : Int} {x : Int32} (hd : decode B pc = .ok (.ifCond .ne o, 3)) (hc : x ≠ 0) (ho : 0 ≤ (pc : Int) + o) (hp : ((pc : Int) + o).toNat = pc')
    (hr : Go W Q ds k n pc' Ls st) : Go W Q ds k n pc Ls (.int x :: st) := go_ifY K hd (XT.i0_ne_t hc) ho hp hr
theorem go_if_ne_f (K : Ok W B y rm mL ret l Z h0) {o : Int} {x : Int32} (hd : decode B pc = .ok (.ifCond .ne o, 3)) (hc : x = 0) (hp : pc + 3 = pc')
    (hr : Go W Q ds k n pc' Ls st) : Go W Q ds k n pc Ls (.int x :: st) := go_ifN K hd (XT.i0_ne_f hc) hp hr
theorem go_if_ne (K : Ok W B y rm mL ret l Z h0) {o : Int} {x : Int32} {pt : Nat} (hd : decode B pc = .ok (.ifCond .ne o, 3)) (ho : 0 ≤ (pc : Int) + o) (ht : ((pc : Int) + o).toNat = pt) (hp : pc + 3 = pc')
    (hy : x ≠ 0 → Go W Q ds k n pt Ls st) (hn : x = 0 → Go W Q ds k n pc' Ls st) : Go W Q ds k n pc Ls (.int x :: st) := by
  by_cases hc : x ≠ 0
  · exact go_if_ne_t K hd hc ho ht (hy hc)
  · exact go_if_ne_f K hd (by first | exact hc | exact Int.not_lt.mp hc | exact Int.not_le.mp hc | exact Decidable.not_not.mp hc) hp (hn (by first | exact hc | exact Int.not_lt.mp hc | exact Int.not_le.mp hc | exact Decidable.not_not.mp hc))
theorem go_ic_ne_t (K : Ok W B y rm mL ret l Z h0) {o : Int} {x z : Int32} (hd : decode B pc = .ok (.if_icmp .ne o, 3)) (hc : x ≠ z) (ho : 0 ≤ (pc : Int) + o) (hp : ((pc : Int) + o).toNat = pc')
    (hr : Go W Q ds k n pc' Ls st) : Go W Q ds k n pc Ls (.int z :: .int x :: st) := go_icY K hd (XT.ii_ne_t hc) ho hp hr
theorem go_ic_ne_f (K : Ok W B y rm mL ret l Z h0) {o : Int} {x z : Int32} (hd : decode B pc = .ok (.if_icmp .ne o, 3)) (hc : x = z) (hp : pc + 3 = pc')
    (hr : Go W Q ds k n pc' Ls st) : Go W Q ds k n pc Ls (.int z :: .int x :: st) := go_icN K hd (XT.ii_ne_f hc) hp hr
theorem go_ic_ne (K : Ok W B y rm mL ret l Z h0) {o : Int} {x z : Int32} {pt : Nat} (hd : decode B pc = .ok (.if_icmp .ne o, 3)) (ho : 0 ≤ (pc : Int) + o) (ht : ((pc : Int) + o).toNat = pt) (hp : pc + 3 = pc')
    (hy : x ≠ z → Go W Q ds k n pt Ls st) (hn : x = z → Go W Q ds k n pc' Ls st) : Go W Q ds k n pc Ls (.int z :: .int x :: st) := by
  by_cases hc : x ≠ z
  · exact go_ic_ne_t K hd hc ho ht (hy hc)
  · exact go_ic_ne_f K hd (by first | exact hc | exact Int.not_lt.mp hc | exact Int.not_le.mp hc | exact Decidable.not_not.mp hc) hp (hn (by first | exact hc | exact Int.not_lt.mp hc | exact Int.not_le.mp hc | exact Decidable.not_not.mp hc))
theorem go_if_lt_t (K : Ok W B y rm mL ret l Z h0) {o : Int} {x : Int32} (hd : decode B pc = .ok (.ifCond .lt o, 3)) (hc : x.toInt < 0) (ho : 0 ≤ (pc : Int) + o) (hp : ((pc : Int) + o).toNat = pc')
    (hr : Go W Q ds k n pc' Ls st) : Go W Q ds k n pc Ls (.int x :: st) := go_ifY K hd (XT.i0_lt_t (Int32.lt_iff_toInt_lt.mpr hc)) ho hp hr
theorem go_if_lt_f (K : Ok W B y rm mL ret l Z h0) {o : Int} {x : Int32} (hd : decode B pc = .ok (.ifCond .lt o, 3)) (hc : 0 ≤ x.toInt) (hp : pc + 3 = pc')
    (hr : Go W Q ds k n pc' Ls st) : Go W Q ds k n pc Ls (.int x :: st) := go_ifN K hd (XT.i0_lt_f (fun q => absurd (Int32.lt_iff_toInt_lt.mp q) (Int.not_lt.mpr hc))) hp hr
theorem go_if_lt (K : Ok W B y rm mL ret l Z h0) {o : Int} {x : Int32} {pt : Nat} (hd : decode B pc = .ok (.ifCond .lt o, 3)) (ho : 0 ≤ (pc : Int) + o) (ht : ((pc : Int) + o).toNat = pt) (hp : pc + 3 = pc')
    (hy : x.toInt < 0 → Go W Q ds k n pt Ls st) (hn : 0 ≤ x.toInt → Go W Q ds k n pc' Ls st) : Go W Q ds k n pc Ls (.int x :: st) := by
  by_cases hc : x.toInt < 0
  · exact go_if_lt_t K hd hc ho ht (hy hc)
  · exact go_if_lt_f K hd (by first | exact hc | exact Int.not_lt.mp hc | exact Int.not_le.mp hc | exact Decidable.not_not.mp hc) hp (hn (by first | exact hc | exact Int.not_lt.mp hc | exact Int.not_le.mp hc | exact Decidable.not_not.mp hc))
theorem go_ic_lt_t (K : Ok W B y rm mL ret l Z h0) {o : Int} {x z : Int32} (hd : decode B pc = .ok (.if_icmp .lt o, 3)) (hc : x.toInt < z.toInt) (ho : 0 ≤ (pc : Int) + o) (hp : ((pc : Int) + o).toNat = pc')
    (hr : Go W Q ds k n pc' Ls st) : Go W Q ds k n pc Ls (.int z :: .int x :: st) := go_icY K hd (XT.ii_lt_t (Int32.lt_iff_toInt_lt.mpr hc)) ho hp hr
theorem go_ic_lt_f (K : Ok W B y rm mL ret l Z h0) {o : Int} {x z : Int32} (hd : decode B pc = .ok (.if_icmp .lt o, 3)) (hc : z.toInt ≤ x.toInt) (hp : pc + 3 = pc')
    (hr : Go W Q ds k n pc' Ls st) : Go W Q ds k n pc Ls (.int z :: .int x :: st) := go_icN K hd (XT.ii_lt_f (fun q => absurd (Int32.lt_iff_toInt_lt.mp q) (Int.not_lt.mpr hc))) hp hr
theorem go_ic_lt (K : Ok W B y rm mL ret l Z h0) {o : Int} {x z : Int32} {pt : Nat} (hd : decode B pc = .ok (.if_icmp .lt o, 3)) (ho : 0 ≤ (pc : Int) + o) (ht : ((pc : Int) + o).toNat = pt) (hp : pc + 3 = pc')
    (hy : x.toInt < z.toInt → Go W Q ds k n pt Ls st) (hn : z.toInt ≤ x.toInt → Go W Q ds k n pc' Ls st) : Go W Q ds k n pc Ls (.int z :: .int x :: st) := by
  by_cases hc : x.toInt < z.toInt
  · exact go_ic_lt_t K hd hc ho ht (hy hc)
  · exact go_ic_lt_f K hd (by first | exact hc | exact Int.not_lt.mp hc | exact Int.not_le.mp hc | exact Decidable.not_not.mp hc) hp (hn (by first | exact hc | exact Int.not_lt.mp hc | exact Int.not_le.mp hc | exact Decidable.not_not.mp hc))
theorem go_if_ge_t (K : Ok W B y rm mL ret l Z h0) {o : Int} {x : Int32} (hd : decode B pc = .ok (.ifCond .ge o, 3)) (hc : 0 ≤ x.toInt) (ho : 0 ≤ (pc : Int) + o) (hp : ((pc : Int) + o).toNat = pc')
    (hr : Go W Q ds k n pc' Ls st) : Go W Q ds k n pc Ls (.int x :: st) := go_ifY K hd (XT.i0_ge_t (fun q => absurd (Int32.lt_iff_toInt_lt.mp q) (Int.not_lt.mpr hc))) ho hp hr
theorem go_if_ge_f (K : Ok W B y rm mL ret l Z h0) {o : Int} {x : Int32} (hd : decode B pc = .ok (.ifCond .ge o, 3)) (hc : x.toInt < 0) (hp : pc + 3 = pc')
    (hr : Go W Q ds k n pc' Ls st) : Go W Q ds k n pc Ls (.int x :: st) := go_ifN K hd (XT.i0_ge_f (Int32.lt_iff_toInt_lt.mpr hc)) hp hr
theorem go_if_ge (K : Ok W B y rm mL ret l Z h0) {o : Int} {x : Int32} {pt : Nat} (hd : decode B pc = .ok (.ifCond .ge o, 3)) (ho : 0 ≤ (pc : Int) + o) (ht : ((pc : Int) + o).toNat = pt) (hp : pc + 3 = pc')
    (hy : 0 ≤ x.toInt → Go W Q ds k n pt Ls st) (hn : x.toInt < 0 → Go W Q ds k n pc' Ls st) : Go W Q ds k n pc Ls (.int x :: st) := by
  by_cases hc : 0 ≤ x.toInt
  · exact go_if_ge_t K hd hc ho ht (hy hc)
  · exact go_if_ge_f K hd (by first | exact hc | exact Int.not_lt.mp hc | exact Int.not_le.mp hc | exact Decidable.not_not.mp hc) hp (hn (by first | exact hc | exact Int.not_lt.mp hc | exact Int.not_le.mp hc | exact Decidable.not_not.mp hc))
theorem go_ic_ge_t (K : Ok W B y rm mL ret l Z h0) {o : Int} {x z : Int32} (hd : decode B pc = .ok (.if_icmp .ge o, 3)) (hc : z.toInt ≤ x.toInt) (ho : 0 ≤ (pc : Int) + o) (hp : ((pc : Int) + o).toNat = pc')
    (hr : Go W Q ds k n pc' Ls st) : Go W Q ds k n pc Ls (.int z :: .int x :: st) := go_icY K hd (XT.ii_ge_t (fun q => absurd (Int32.lt_iff_toInt_lt.mp q) (Int.not_lt.mpr hc))) ho hp hr
theorem go_ic_ge_f (K : Ok W B y rm mL ret l Z h0) {o : Int} {x z : Int32} (hd : decode B pc = .ok (.if_icmp .ge o, 3)) (hc : x.toInt < z.toInt) (hp : pc + 3 = pc')
    (hr : Go W Q ds k n pc' Ls st) : Go W Q ds k n pc Ls (.int z :: .int x :: st) := go_icN K hd (XT.ii_ge_f (Int32.lt_iff_toInt_lt.mpr hc)) hp hr
theorem go_ic_ge (K : Ok W B y rm mL ret l Z h0) {o : Int} {x z : Int32} {pt : Nat} (hd : decode B pc = .ok (.if_icmp .ge o, 3)) (ho : 0 ≤ (pc : Int) + o) (ht : ((pc : Int) + o).toNat = pt) (hp : pc + 3 = pc')
    (hy : z.toInt ≤ x.toInt → Go W Q ds k n pt Ls st) (hn : x.toInt < z.toInt → Go W Q ds k n pc' Ls st) : Go W Q ds k n pc Ls (.int z :: .int x :: st) := by
  by_cases hc : z.toInt ≤ x.toInt
  · exact go_ic_ge_t K hd hc ho ht (hy hc)
  · exact go_ic_ge_f K hd (by first | exact hc | exact Int.not_lt.mp hc | exact Int.not_le.mp hc | exact Decidable.not_not.mp hc) hp (hn (by first | exact hc | exact Int.not_lt.mp hc | exact Int.not_le.mp hc | exact Decidable.not_not.mp hc))
theorem go_if_gt_t (K : Ok W B y rm mL ret l Z h0) {o : Int} {x : Int32} (hd : decode B pc = .ok (.ifCond .gt o, 3)) (hc : 0 < x.toInt) (ho : 0 ≤ (pc : Int) + o) (hp : ((pc : Int) + o).toNat = pc')
    (hr : Go W Q ds k n pc' Ls st) : Go W Q ds k n pc Ls (.int x :: st) := go_ifY K hd (XT.i0_gt_t (Int32.lt_iff_toInt_lt.mpr hc)) ho hp hr
theorem go_if_gt_f (K : Ok W B y rm mL ret l Z h0) {o : Int} {x : Int32} (hd : decode B pc = .ok (.ifCond .gt o, 3)) (hc : x.toInt ≤ 0) (hp : pc + 3 = pc')
    (hr : Go W Q ds k n pc' Ls st) : Go W Q ds k n pc Ls (.int x :: st) := go_ifN K hd (XT.i0_gt_f (fun q => absurd (Int32.lt_iff_toInt_lt.mp q) (Int.not_lt.mpr hc))) hp hr
theorem go_if_gt (K : Ok W B y rm mL ret l Z h0) {o : Int} {x : Int32} {pt : Nat} (hd : decode B pc = .ok (.ifCond .gt o, 3)) (ho : 0 ≤ (pc : Int) + o) (ht : ((pc : Int) + o).toNat = pt) (hp : pc + 3 = pc')
    (hy : 0 < x.toInt → Go W Q ds k n pt Ls st) (hn : x.toInt ≤ 0 → Go W Q ds k n pc' Ls st) : Go W Q ds k n pc Ls (.int x :: st) := by
  by_cases hc : 0 < x.toInt
  · exact go_if_gt_t K hd hc ho ht (hy hc)
  · exact go_if_gt_f K hd (by first | exact hc | exact Int.not_lt.mp hc | exact Int.not_le.mp hc | exact Decidable.not_not.mp hc) hp (hn (by first | exact hc | exact Int.not_lt.mp hc | exact Int.not_le.mp hc | exact Decidable.not_not.mp hc))
theorem go_ic_gt_t (K : Ok W B y rm mL ret l Z h0) {o : Int} {x z : Int32} (hd : decode B pc = .ok (.if_icmp .gt o, 3)) (hc : z.toInt < x.toInt) (ho : 0 ≤ (pc : Int) + o) (hp : ((pc : Int) + o).toNat = pc')
    (hr : Go W Q ds k n pc' Ls st) : Go W Q ds k n pc Ls (.int z :: .int x :: st) := go_icY K hd (XT.ii_gt_t (Int32.lt_iff_toInt_lt.mpr hc)) ho hp hr
theorem go_ic_gt_f (K : Ok W B y rm mL ret l Z h0) {o : Int} {x z : Int32} (hd : decode B pc = .ok (.if_icmp .gt o, 3)) (hc : x.toInt ≤ z.toInt) (hp : pc + 3 = pc')
    (hr : Go W Q ds k n pc' Ls st) : Go W Q ds k n pc Ls (.int z :: .int x :: st) := go_icN K hd (XT.ii_gt_f (fun q => absurd (Int32.lt_iff_toInt_lt.mp q) (Int.not_lt.mpr hc))) hp hr
theorem go_ic_gt (K : Ok W B y rm mL ret l Z h0) {o : Int} {x z : Int32} {pt : Nat} (hd : decode B pc = .ok (.if_icmp .gt o, 3)) (ho : 0 ≤ (pc : Int) + o) (ht : ((pc : Int) + o).toNat = pt) (hp : pc + 3 = pc')
    (hy : z.toInt < x.toInt → Go W Q ds k n pt Ls st) (hn : x.toInt ≤ z.toInt → Go W Q ds k n pc' Ls st) : Go W Q ds k n pc Ls (.int z :: .int x :: st) := by
  by_cases hc : z.toInt < x.toInt
  · exact go_ic_gt_t K hd hc ho ht (hy hc)
  · exact go_ic_gt_f K hd (by first | exact hc | exact Int.not_lt.mp hc | exact Int.not_le.mp hc | exact Decidable.not_not.mp hc) hp (hn (by first | exact hc | exact Int.not_lt.mp hc | exact Int.not_le.mp hc | exact Decidable.not_not.mp hc))
theorem go_if_le_t (K : Ok W B y rm mL ret l Z h0) {o : Int} {x : Int32} (hd : decode B pc = .ok (.ifCond .le o, 3)) (hc : x.toInt ≤ 0) (ho : 0 ≤ (pc : Int) + o) (hp : ((pc : Int) + o).toNat = pc')
    (hr : Go W Q ds k n pc' Ls st) : Go W Q ds k n pc Ls (.int x :: st) := go_ifY K hd (XT.i0_le_t (fun q => absurd (Int32.lt_iff_toInt_lt.mp q) (Int.not_lt.mpr hc))) ho hp hr
theorem go_if_le_f (K : Ok W B y rm mL ret l Z h0) {o : Int} {x : Int32} (hd : decode B pc = .ok (.ifCond .le o, 3)) (hc : 0 < x.toInt) (hp : pc + 3 = pc')
    (hr : Go W Q ds k n pc' Ls st) : Go W Q ds k n pc Ls (.int x :: st) := go_ifN K hd (XT.i0_le_f (Int32.lt_iff_toInt_lt.mpr hc)) hp hr
theorem go_if_le (K : Ok W B y rm mL ret l Z h0) {o : Int} {x : Int32} {pt : Nat} (hd : decode B pc = .ok (.ifCond .le o, 3)) (ho : 0 ≤ (pc : Int) + o) (ht : ((pc : Int) + o).toNat = pt) (hp : pc + 3 = pc')
    (hy : x.toInt ≤ 0 → Go W Q ds k n pt Ls st) (hn : 0 < x.toInt → Go W Q ds k n pc' Ls st) : Go W Q ds k n pc Ls (.int x :: st) := by
  by_cases hc : x.toInt ≤ 0
  · exact go_if_le_t K hd hc ho ht (hy hc)
  · exact go_if_le_f K hd (by first | exact hc | exact Int.not_lt.mp hc | exact Int.not_le.mp hc | exact Decidable.not_not.mp hc) hp (hn (by first | exact hc | exact Int.not_lt.mp hc | exact Int.not_le.mp hc | exact Decidable.not_not.mp hc))
theorem go_ic_le_t (K : Ok W B y rm mL ret l Z h0) {o : Int} {x z : Int32} (hd : decode B pc = .ok (.if_icmp .le o, 3)) (hc : x.toInt ≤ z.toInt) (ho : 0 ≤ (pc : Int) + o) (hp : ((pc : Int) + o).toNat = pc')
    (hr : Go W Q ds k n pc' Ls st) : Go W Q ds k n pc Ls (.int z :: .int x :: st) := go_icY K hd (XT.ii_le_t (fun q => absurd (Int32.lt_iff_toInt_lt.mp q) (Int.not_lt.mpr hc))) ho hp hr
theorem go_ic_le_f (K : Ok W B y rm mL ret l Z h0) {o : Int} {x z : Int32} (hd : decode B pc = .ok (.if_icmp .le o, 3)) (hc : z.toInt < x.toInt) (hp : pc + 3 = pc')
    (hr : Go W Q ds k n pc' Ls st) : Go W Q ds k n pc Ls (.int z :: .int x :: st) := go_icN K hd (XT.ii_le_f (Int32.lt_iff_toInt_lt.mpr hc)) hp hr
theorem go_ic_le (K : Ok W B y rm mL ret l Z h0) {o : Int} {x z : Int32} {pt : Nat} (hd : decode B pc = .ok (.if_icmp .le o, 3)) (ho : 0 ≤ (pc : Int) + o) (ht : ((pc : Int) + o).toNat = pt) (hp : pc + 3 = pc')
    (hy : x.toInt ≤ z.toInt → Go W Q ds k n pt Ls st) (hn : z.toInt < x.toInt → Go W Q ds k n pc' Ls st) : Go W Q ds k n pc Ls (.int z :: .int x :: st) := by
  by_cases hc : x.toInt ≤ z.toInt
  · exact go_ic_le_t K hd hc ho ht (hy hc)
  · exact go_ic_le_f K hd (by first | exact hc | exact Int.not_lt.mp hc | exact Int.not_le.mp hc | exact Decidable.not_not.mp hc) hp (hn (by first | exact hc | exact Int.not_lt.mp hc | exact Int.not_le.mp hc | exact Decidable.not_not.mp hc))
theorem go_ll_eq_t (K : Ok W B y rm mL ret l Z h0) {o : Int} {x z : Int64} {pm : Nat} (hd : decode B pc = .ok (.lcmp, 1)) (hm : pc + 1 = pm) (hd' : decode B pm = .ok (.ifCond .eq o, 3)) (hc : x = z) (ho : 0 ≤ (pm : Int) + o) (hp : ((pm : Int) + o).toNat = pc')
    (hr : Go W Q ds k n pc' Ls st) : Go W Q ds k n pc Ls (.long z :: .long x :: st) := go_lcmp K hd hm (go_ifY K hd' (XT.ll_eq_t hc) ho hp hr)
theorem go_ll_eq_f (K : Ok W B y rm mL ret l Z h0) {o : Int} {x z : Int64} {pm : Nat} (hd : decode B pc = .ok (.lcmp, 1)) (hm : pc + 1 = pm) (hd' : decode B pm = .ok (.ifCond .eq o, 3)) (hc : x ≠ z) (hp : pm + 3 = pc')
    (hr : Go W Q ds k n pc' Ls st) : Go W Q ds k n pc Ls (.long z :: .long x :: st) := go_lcmp K hd hm (go_ifN K hd' (XT.ll_eq_f hc) hp hr)
theorem go_ll_eq (K : Ok W B y rm mL ret l Z h0) {o : Int} {x z : Int64} {pm pt : Nat} (hd : decode B pc = .ok (.lcmp, 1)) (hm : pc + 1 = pm) (hd' : decode B pm = .ok (.ifCond .eq o, 3)) (ho : 0 ≤ (pm : Int) + o) (ht : ((pm : Int) + o).toNat = pt) (hp : pm + 3 = pc')
    (hy : x = z → Go W Q ds k n pt Ls st) (hn : x ≠ z → Go W Q ds k n pc' Ls st) : Go W Q ds k n pc Ls (.long z :: .long x :: st) := by
  by_cases hc : x = z
  · exact go_ll_eq_t K hd hm hd' hc ho ht (hy hc)
  · exact go_ll_eq_f K hd hm hd' (by first | exact hc | exact Int.not_lt.mp hc | exact Int.not_le.mp hc | exact Decidable.not_not.mp hc) hp (hn (by first | exact hc | exact Int.not_lt.mp hc | exact Int.not_le.mp hc | exact Decidable.not_not.mp hc))
theorem go_ll_ne_t (K : Ok W B y rm mL ret l Z h0) {o : Int} {x z : Int64} {pm : Nat} (hd : decode B pc = .ok (.lcmp, 1)) (hm : pc + 1 = pm) (hd' : decode B pm = .ok (.ifCond .ne o, 3)) (hc : x ≠ z) (ho : 0 ≤ (pm : Int) + o) (hp : ((pm : Int) + o).toNat = pc')
    (hr : Go W Q ds k n pc' Ls st) : Go W Q ds k n pc Ls (.long z :: .long x :: st) := go_lcmp K hd hm (go_ifY K hd' (XT.ll_ne_t hc) ho hp hr)
theorem go_ll_ne_f (K : Ok W B y rm mL ret l Z h0) {o : Int} {x z : Int64} {pm : Nat} (hd : decode B pc = .ok (.lcmp, 1)) (hm : pc + 1 = pm) (hd' : decode B pm = .ok (.ifCond .ne o, 3)) (hc : x = z) (hp : pm + 3 = pc')
    (hr : Go W Q ds k n pc' Ls st) : Go W Q ds k n pc Ls (.long z :: .long x :: st) := go_lcmp K hd hm (go_ifN K hd' (XT.ll_ne_f hc) hp hr)
theorem go_ll_ne (K : Ok W B y rm mL ret l Z h0) {o : Int} {x z : Int64} {pm pt : Nat} (hd : decode B pc = .ok (.lcmp, 1)) (hm : pc + 1 = pm) (hd' : decode B pm = .ok (.ifCond .ne o, 3)) (ho : 0 ≤ (pm : Int) + o) (ht : ((pm : Int) + o).toNat = pt) (hp : pm + 3 = pc')
    (hy : x ≠ z → Go W Q ds k n pt Ls st) (hn : x = z → Go W Q ds k n pc' Ls st) : Go W Q ds k n pc Ls (.long z :: .long x :: st) := by
  by_cases hc : x ≠ z
  · exact go_ll_ne_t K hd hm hd' hc ho ht (hy hc)
  · exact go_ll_ne_f K hd hm hd' (by first | exact hc | exact Int.not_lt.mp hc | exact Int.not_le.mp hc | exact Decidable.not_not.mp hc) hp (hn (by first | exact hc | exact Int.not_lt.mp hc | exact Int.not_le.mp hc | exact Decidable.not_not.mp hc))
theorem go_ll_lt_t (K : Ok W B y rm mL ret l Z h0) {o : Int} {x z : Int64} {pm : Nat} (hd : decode B pc = .ok (.lcmp, 1)) (hm : pc + 1 = pm) (hd' : decode B pm = .ok (.ifCond .lt o, 3)) (hc : x.toInt < z.toInt) (ho : 0 ≤ (pm : Int) + o) (hp : ((pm : Int) + o).toNat = pc')
    (hr : Go W Q ds k n pc' Ls st) : Go W Q ds k n pc Ls (.long z :: .long x :: st) := go_lcmp K hd hm (go_ifY K hd' (XT.ll_lt_t (Int64.lt_iff_toInt_lt.mpr hc)) ho hp hr)
theorem go_ll_lt_f (K : Ok W B y rm mL ret l Z h0) {o : Int} {x z : Int64} {pm : Nat} (hd : decode B pc = .ok (.lcmp, 1)) (hm : pc + 1 = pm) (hd' : decode B pm = .ok (.ifCond .lt o, 3)) (hc : z.toInt ≤ x.toInt) (hp : pm + 3 = pc')
    (hr : Go W Q ds k n pc' Ls st) : Go W Q ds k n pc Ls (.long z :: .long x :: st) := go_lcmp K hd hm (go_ifN K hd' (XT.ll_lt_f (fun q => absurd (Int64.lt_iff_toInt_lt.mp q) (Int.not_lt.mpr hc))) hp hr)
theorem go_ll_lt (K : Ok W B y rm mL ret l Z h0) {o : Int} {x z : Int64} {pm pt : Nat} (hd : decode B pc = .ok (.lcmp, 1)) (hm : pc + 1 = pm) (hd' : decode B pm = .ok (.ifCond .lt o, 3)) (ho : 0 ≤ (pm : Int) + o) (ht : ((pm : Int) + o).toNat = pt) (hp : pm + 3 = pc')
    (hy : x.toInt < z.toInt → Go W Q ds k n pt Ls st) (hn : z.toInt ≤ x.toInt → Go W Q ds k n pc' Ls st) : Go W Q ds k n pc Ls (.long z :: .long x :: st) := by
  by_cases hc : x.toInt < z.toInt
  · exact go_ll_lt_t K hd hm hd' hc ho ht (hy hc)
  · exact go_ll_lt_f K hd hm hd' (by first | exact hc | exact Int.not_lt.mp hc | exact Int.not_le.mp hc | exact Decidable.not_not.mp hc) hp (hn (by first | exact hc | exact Int.not_lt.mp hc | exact Int.not_le.mp hc | exact Decidable.not_not.mp hc))
theorem go_ll_ge_t (K : Ok W B y rm mL ret l Z h0) {o : Int} {x z : Int64} {pm : Nat} (hd : decode B pc = .ok (.lcmp, 1)) (hm : pc + 1 = pm) (hd' : decode B pm = .ok (.ifCond .ge o, 3)) (hc : z.toInt ≤ x.toInt) (ho : 0 ≤ (pm : Int) + o) (hp : ((pm : Int) + o).toNat = pc')
    (hr : Go W Q ds k n pc' Ls st) : Go W Q ds k n pc Ls (.long z :: .long x :: st) := go_lcmp K hd hm (go_ifY K hd' (XT.ll_ge_t (fun q => absurd (Int64.lt_iff_toInt_lt.mp q) (Int.not_lt.mpr hc))) ho hp hr)
theorem go_ll_ge_f (K : Ok W B y rm mL ret l Z h0) {o : Int} {x z : Int64} {pm : Nat} (hd : decode B pc = .ok (.lcmp, 1)) (hm : pc + 1 = pm) (hd' : decode B pm = .ok (.ifCond .ge o, 3)) (hc : x.toInt < z.toInt) (hp : pm + 3 = pc')
    (hr : Go W Q ds k n pc' Ls st) : Go W Q ds k n pc Ls (.long z :: .long x :: st) := go_lcmp K hd hm (go_ifN K hd' (XT.ll_ge_f (Int64.lt_iff_toInt_lt.mpr hc)) hp hr)
theorem go_ll_ge (K : Ok W B y rm mL ret l Z h0) {o : Int} {x z : Int64} {pm pt : Nat} (hd : decode B pc = .ok (.lcmp, 1)) (hm : pc + 1 = pm) (hd' : decode B pm = .ok (.ifCond .ge o, 3)) (ho : 0 ≤ (pm : Int) + o) (ht : ((pm : Int) + o).toNat = pt) (hp : pm + 3 = pc')
    (hy : z.toInt ≤ x.toInt → Go W Q ds k n pt Ls st) (hn : x.toInt < z.toInt → Go W Q ds k n pc' Ls st) : Go W Q ds k n pc Ls (.long z :: .long x :: st) := by
  by_cases hc : z.toInt ≤ x.toInt
  · exact go_ll_ge_t K hd hm hd' hc ho ht (hy hc)
  · exact go_ll_ge_f K hd hm hd' (by first | exact hc | exact Int.not_lt.mp hc | exact Int.not_le.mp hc | exact Decidable.not_not.mp hc) hp (hn (by first | exact hc | exact Int.not_lt.mp hc | exact Int.not_le.mp hc | exact Decidable.not_not.mp hc))
theorem go_ll_gt_t (K : Ok W B y rm mL ret l Z h0) {o : Int} {x z : Int64} {pm : Nat} (hd : decode B pc = .ok (.lcmp, 1)) (hm : pc + 1 = pm) (hd' : decode B pm = .ok (.ifCond .gt o, 3)) (hc : z.toInt < x.toInt) (ho : 0 ≤ (pm : Int) + o) (hp : ((pm : Int) + o).toNat = pc')
    (hr : Go W Q ds k n pc' Ls st) : Go W Q ds k n pc Ls (.long z :: .long x :: st) := go_lcmp K hd hm (go_ifY K hd' (XT.ll_gt_t (Int64.lt_iff_toInt_lt.mpr hc)) ho hp hr)
theorem go_ll_gt_f (K : Ok W B y rm mL ret l Z h0) {o : Int} {x z : Int64} {pm : Nat} (hd : decode B pc = .ok (.lcmp, 1)) (hm : pc + 1 = pm) (hd' : decode B pm = .ok (.ifCond .gt o, 3)) (hc : x.toInt ≤ z.toInt) (hp : pm + 3 = pc')
    (hr : Go W Q ds k n pc' Ls st) : Go W Q ds k n pc Ls (.long z :: .long x :: st) := go_lcmp K hd hm (go_ifN K hd' (XT.ll_gt_f (fun q => absurd (Int64.lt_iff_toInt_lt.mp q) (Int.not_lt.mpr hc))) hp hr)
theorem go_ll_gt (K : Ok W B y rm mL ret l Z h0) {o : Int} {x z : Int64} {pm pt : Nat} (hd : decode B pc = .ok (.lcmp, 1)) (hm : pc + 1 = pm) (hd' : decode B pm = .ok (.ifCond .gt o, 3)) (ho : 0 ≤ (pm : Int) + o) (ht : ((pm : Int) + o).toNat = pt) (hp : pm + 3 = pc')
    (hy : z.toInt < x.toInt → Go W Q ds k n pt Ls st) (hn : x.toInt ≤ z.toInt → Go W Q ds k n pc' Ls st) : Go W Q ds k n pc Ls (.long z :: .long x :: st) := by
  by_cases hc : z.toInt < x.toInt
  · exact go_ll_gt_t K hd hm hd' hc ho ht (hy hc)
  · exact go_ll_gt_f K hd hm hd' (by first | exact hc | exact Int.not_lt.mp hc | exact Int.not_le.mp hc | exact Decidable.not_not.mp hc) hp (hn (by first | exact hc | exact Int.not_lt.mp hc | exact Int.not_le.mp hc | exact Decidable.not_not.mp hc))
theorem go_ll_le_t (K : Ok W B y rm mL ret l Z h0) {o : Int} {x z : Int64} {pm : Nat} (hd : decode B pc = .ok (.lcmp, 1)) (hm : pc + 1 = pm) (hd' : decode B pm = .ok (.ifCond .le o, 3)) (hc : x.toInt ≤ z.toInt) (ho : 0 ≤ (pm : Int) + o) (hp : ((pm : Int) + o).toNat = pc')
    (hr : Go W Q ds k n pc' Ls st) : Go W Q ds k n pc Ls (.long z :: .long x :: st) := go_lcmp K hd hm (go_ifY K hd' (XT.ll_le_t (fun q => absurd (Int64.lt_iff_toInt_lt.mp q) (Int.not_lt.mpr hc))) ho hp hr)
theorem go_ll_le_f (K : Ok W B y rm mL ret l Z h0) {o : Int} {x z : Int64} {pm : Nat} (hd : decode B pc = .ok (.lcmp, 1)) (hm : pc + 1 = pm) (hd' : decode B pm = .ok (.ifCond .le o, 3)) (hc : z.toInt < x.toInt) (hp : pm + 3 = pc')
    (hr : Go W Q ds k n pc' Ls st) : Go W Q ds k n pc Ls (.long z :: .long x :: st) := go_lcmp K hd hm (go_ifN K hd' (XT.ll_le_f (Int64.lt_iff_toInt_lt.mpr hc)) hp hr)
theorem go_ll_le (K : Ok W B y rm mL ret l Z h0) {o : Int} {x z : Int64} {pm pt : Nat} (hd : decode B pc = .ok (.lcmp, 1)) (hm : pc + 1 = pm) (hd' : decode B pm = .ok (.ifCond .le o, 3)) (ho : 0 ≤ (pm : Int) + o) (ht : ((pm : Int) + o).toNat = pt) (hp : pm + 3 = pc')
    (hy : x.toInt ≤ z.toInt → Go W Q ds k n pt Ls st) (hn : z.toInt < x.toInt → Go W Q ds k n pc' Ls st) : Go W Q ds k n pc Ls (.long z :: .long x :: st) := by
  by_cases hc : x.toInt ≤ z.toInt
  · exact go_ll_le_t K hd hm hd' hc ho ht (hy hc)
  · exact go_ll_le_f K hd hm hd' (by first | exact hc | exact Int.not_lt.mp hc | exact Int.not_le.mp hc | exact Decidable.not_not.mp hc) hp (hn (by first | exact hc | exact Int.not_lt.mp hc | exact Int.not_le.mp hc | exact Decidable.not_not.mp hc))

/-! null tests, references compared -/
theorem go_ifnull_r (K : Ok W B y rm mL ret l Z h0) {o : Int} {a : Nat} (hd : decode B pc = .ok (.ifnull o, 3)) (hp : pc + 3 = pc') (hr : Go W Q ds k n pc' Ls st) : Go W Q ds k n pc Ls (.ref a :: st) := by
  subst hp
  exact go_of K (fun hx hby hown hZ X t h => XS.ifnullNo X.here hx rfl (hb hby hd) rfl h) hr
theorem go_ifnonnull_r (K : Ok W B y rm mL ret l Z h0) {o : Int} {a : Nat} (hd : decode B pc = .ok (.ifnonnull o, 3)) (ho : 0 ≤ (pc : Int) + o) (hp : ((pc : Int) + o).toNat = pc') (hr : Go W Q ds k n pc' Ls st) : Go W Q ds k n pc Ls (.ref a :: st) :=
  go_of K (fun hx hby hown hZ X t h => XT.ifnonnullYes X.here hx rfl rfl (hb hby hd) rfl ho hp h) hr
theorem go_acY (K : Ok W B y rm mL ret l Z h0) {o : Int} {cd : ClassFile.ACond} {a b : Value} (hd : decode B pc = .ok (.if_acmp cd o, 3)) (h1 : a.isRef = true) (h2 : b.isRef = true) (hc : XT.acmp cd a b = true) (ho : 0 ≤ (pc : Int) + o) (hp : ((pc : Int) + o).toNat = pc')
    (hr : Go W Q ds k n pc' Ls st) : Go W Q ds k n pc Ls (b :: a :: st) :=
  go_of K (fun hx hby hown hZ X t h => XT.acmpYes X.here hx rfl rfl (hb hby hd) rfl h1 h2 hc ho hp h) hr
theorem go_acN (K : Ok W B y rm mL ret l Z h0) {o : Int} {cd : ClassFile.ACond} {a b : Value} (hd : decode B pc = .ok (.if_acmp cd o, 3)) (h1 : a.isRef = true) (h2 : b.isRef = true) (hc : XT.acmp cd a b = false) (hp : pc + 3 = pc')
    (hr : Go W Q ds k n pc' Ls st) : Go W Q ds k n pc Ls (b :: a :: st) := by
  subst hp
  exact go_of K (fun hx hby hown hZ X t h => XT.acmpNo X.here hx rfl (hb hby hd) rfl h1 h2 hc h) hr
/-! returns -/
theorem go_done (K : Ok W B y rm mL ret l Z h0) {v : Option Value} (hv : ret = none → v = none) (hk : k ≤ rm.cells) (hn : n ≤ rm.slots)
    (f : ∀ {p : Program} {l : Launch} {e : Env} {R : Room} {s : State} {m : MethodId} {args : Array Value} {below : List Frame} {meth : Method} {c : Code} {T : State} {L : List Loc} {fs : List Frame}, p.tables.exec = Jvm.exec → c.code = B → meth.sig.returnType = ret →
      Stand p l e R s m args below meth c T L k n → (∀ (f : JFrame) (acts : List Action), f.method = m → f.locked = none → f.entered = [] → (doReturn e (T.setTop f) acts v).1 = T.setFrames fs) → Steps p.tables e below (T.setTop (mkF m pc Ls st)) (T.setFrames fs))
    (hq : Q v ds) : Go W Q ds k n pc Ls st := by
  obtain ⟨p, l, e, R, s, m, args, below, meth, c, Z, h0⟩ := W
  obtain ⟨k1, k2, k3, k4, k5, k6, k7, k8, rfl, rfl, rfl, rfl⟩ := K
  intro T L N X H
  obtain ⟨fs, hr, hrun, hended, hW, hsame⟩ := X.leave (v := v) (fun h => hv (k6.symm.trans h)) k7
  exact ⟨_, v, f k1 k3 k6 X hr, hrun, hended, L, ds, N, H, hq, ⟨_, rfl⟩, hW, hsame.mono hk hn⟩
theorem go_ret (K : Ok W B y rm mL none l Z h0) (hd : decode B pc = .ok (.return_, 1)) (hk : k ≤ rm.cells) (hn : n ≤ rm.slots) (hq : Q none ds) : Go W Q ds k n pc Ls [] :=
  go_done K (v := none) (fun _ => rfl) hk hn (fun hx hby hret X hr => X.returnOut hx hret (hb hby hd) hr) hq
theorem go_iret (K : Ok W B y rm mL (some .int) l Z h0) {z : Int32} (hd : decode B pc = .ok (.ireturn, 1)) (hk : k ≤ rm.cells) (hn : n ≤ rm.slots) (hq : Q (some (.int z)) ds) : Go W Q ds k n pc Ls (.int z :: st) :=
  go_done K (v := some (.int z)) (fun h => by cases h) hk hn (fun hx hby hret X hr => retOut X hx hret rfl (Or.inl ⟨rfl, Or.inl rfl, _, rfl⟩) (hb hby hd) hr) hq
theorem go_zret (K : Ok W B y rm mL (some .boolean) l Z h0) {z : Int32} (hd : decode B pc = .ok (.ireturn, 1)) (hk : k ≤ rm.cells) (hn : n ≤ rm.slots) (hz : z = 0 ∨ z = 1) (hq : Q (some (.int z)) ds) : Go W Q ds k n pc Ls (.int z :: st) :=
  go_done K (v := some (.int z)) (fun h => by cases h) hk hn (fun hx hby hret X hr => retOut X hx hret (by rcases hz with rfl | rfl <;> rfl) (Or.inl ⟨rfl, Or.inr (Or.inl rfl), _, rfl⟩) (hb hby hd) hr) hq
theorem go_lret (K : Ok W B y rm mL (some .long) l Z h0) {z : Int64} (hd : decode B pc = .ok (.lreturn, 1)) (hk : k ≤ rm.cells) (hn : n ≤ rm.slots) (hq : Q (some (.long z)) ds) : Go W Q ds k n pc Ls (.long z :: st) :=
  go_done K (v := some (.long z)) (fun h => by cases h) hk hn (fun hx hby hret X hr => retOut X hx hret rfl (Or.inr (Or.inl ⟨rfl, rfl, _, rfl⟩)) (hb hby hd) hr) hq
theorem go_aret {t : FieldType} (K : Ok W B y rm mL (some t) l Z h0) {a : Nat} (ht : t.isReference = true) (hd : decode B pc = .ok (.areturn, 1)) (hk : k ≤ rm.cells) (hn : n ≤ rm.slots) (hq : Q (some (.ref a)) ds) : Go W Q ds k n pc Ls (.ref a :: st) :=
  go_done K (v := some (.ref a)) (fun h => by cases h) hk hn (fun hx hby hret X hr => retOut X hx hret (by cases t <;> first | rfl | cases ht) (Or.inr (Or.inr (Or.inr (Or.inr ⟨rfl, ht, rfl⟩)))) (hb hby hd) hr) hq
/-! arrays -/
theorem inb {vs : List Value} {c : Cell} {j : Int32} {m : Nat} (S : c.slots = vs.toArray) (hj : j.toInt = (m : Int)) (hm : m < vs.length) : ¬ (j < 0 ∨ c.slots.size ≤ j.toNatClampNeg) := by
  have e : j.toNatClampNeg = m := by simp [Int32.toNatClampNeg, hj]
  rw [e, S, List.size_toArray, Int32.lt_iff_toInt_lt, hj]
  have z : (0 : Int32).toInt = 0 := rfl
  rw [z]; omega
theorem go_alen (K : Ok W B y rm mL ret l Z h0) {i a : Nat} {ty : FieldType} {vs : List Value} {z : Int32} (ha : ds[i]? = some (a, .inl (ty, vs))) (hd : decode B pc = .ok (.arraylength, 1)) (hz : vs.length.toInt32 = z) (hp : pc + 1 = pc')
    (hr : Go W Q ds k n pc' Ls (.int z :: st)) : Go W Q ds k n pc Ls (.ref a :: st) := by
  obtain ⟨p, l, e, R, s, m, args, below, meth, c, Z, h0⟩ := W
  obtain ⟨k1, k2, k3, k4, k5, k6, k7, k8, rfl, rfl, rfl, rfl⟩ := K
  intro T L N X H
  obtain ⟨s₂, v, h1, rest⟩ := hr T L N X H
  obtain ⟨-, cl, A, S, -⟩ := H.2.1 _ _ ha
  subst hp hz
  refine ⟨s₂, v, X.arraylength k1 A.1 (State.isArrayOf_alike k2.alike A.2.1) (g := mkF m pc Ls (.ref a :: st)) rfl rfl (hb k3 hd) _ ?_, rest⟩
  have q : cl.slots.size = vs.length := by rw [S, List.size_toArray]
  rw [q]; exact h1

theorem go_iaload (K : Ok W B y rm mL ret l Z h0) {i a m : Nat} {xs : List Int32} {j : Int32} {x : Int32} (ha : ds[i]? = some (a, ia xs)) (hd : decode B pc = .ok (.iaload, 1)) (hj : j.toInt = (m : Int)) (hx : xs[m]? = some x) (hp : pc + 1 = pc')
    (hr : Go W Q ds k n pc' Ls (.int x :: st)) : Go W Q ds k n pc Ls (.int j :: .ref a :: st) := by
  obtain ⟨p, l, e, R, s, mm, args, below, meth, c, Z, h0⟩ := W
  obtain ⟨k1, k2, k3, k4, k5, k6, k7, k8, rfl, rfl, rfl, rfl⟩ := K
  intro T L N X H
  obtain ⟨s₂, v, h1, rest⟩ := hr T L N X H
  obtain ⟨-, cl, A, S, -⟩ := H.2.1 _ _ ha
  subst hp
  have hm : m < xs.length := (List.getElem?_eq_some_iff.mp hx).1
  have e1 : j.toNatClampNeg = m := by simp [Int32.toNatClampNeg, hj]
  refine ⟨s₂, v, X.iaload k1 A.1 (State.isArrayOf_alike k2.alike A.2.1) A.2.2 (inb S hj (by simpa using hm)) (v := .int x) ?_ (g := mkF mm pc Ls (.int j :: .ref a :: st)) rfl rfl (hb k3 hd) _ h1, rest⟩
  rw [e1, S]; simp [hx]
theorem go_laload (K : Ok W B y rm mL ret l Z h0) {i a m : Nat} {xs : List Int64} {j : Int32} {x : Int64} (ha : ds[i]? = some (a, la xs)) (hd : decode B pc = .ok (.laload, 1)) (hj : j.toInt = (m : Int)) (hx : xs[m]? = some x) (hp : pc + 1 = pc')
    (hr : Go W Q ds k n pc' Ls (.long x :: st)) : Go W Q ds k n pc Ls (.int j :: .ref a :: st) := by
  obtain ⟨p, l, e, R, s, mm, args, below, meth, c, Z, h0⟩ := W
  obtain ⟨k1, k2, k3, k4, k5, k6, k7, k8, rfl, rfl, rfl, rfl⟩ := K
  intro T L N X H
  obtain ⟨s₂, v, h1, rest⟩ := hr T L N X H
  obtain ⟨-, cl, A, S, -⟩ := H.2.1 _ _ ha
  subst hp
  have hm : m < xs.length := (List.getElem?_eq_some_iff.mp hx).1
  have e1 : j.toNatClampNeg = m := by simp [Int32.toNatClampNeg, hj]
  refine ⟨s₂, v, X.laload k1 A.1 (State.isArrayOf_alike k2.alike A.2.1) A.2.2 (inb S hj (by simpa using hm)) (v := .long x) ?_ (g := mkF mm pc Ls (.int j :: .ref a :: st)) rfl rfl (hb k3 hd) _ h1, rest⟩
  rw [e1, S]; simp [hx]
theorem go_baload (K : Ok W B y rm mL ret l Z h0) {i a m : Nat} {xs : List Int32} {j : Int32} {x : Int32} (ha : ds[i]? = some (a, ba xs)) (hd : decode B pc = .ok (.baload, 1)) (hj : j.toInt = (m : Int)) (hx : xs[m]? = some x) (hp : pc + 1 = pc')
    (hr : Go W Q ds k n pc' Ls (.int x :: st)) : Go W Q ds k n pc Ls (.int j :: .ref a :: st) := by
  obtain ⟨p, l, e, R, s, mm, args, below, meth, c, Z, h0⟩ := W
  obtain ⟨k1, k2, k3, k4, k5, k6, k7, k8, rfl, rfl, rfl, rfl⟩ := K
  intro T L N X H
  obtain ⟨s₂, v, h1, rest⟩ := hr T L N X H
  obtain ⟨-, cl, A, S, -⟩ := H.2.1 _ _ ha
  subst hp
  have hm : m < xs.length := (List.getElem?_eq_some_iff.mp hx).1
  have e1 : j.toNatClampNeg = m := by simp [Int32.toNatClampNeg, hj]
  refine ⟨s₂, v, X.baloadBytes k1 A.1 (State.isArrayOf_alike k2.alike A.2.1) A.2.2 (inb S hj (by simpa using hm)) (v := .int x) ?_ (g := mkF mm pc Ls (.int j :: .ref a :: st)) rfl rfl (hb k3 hd) _ h1, rest⟩
  rw [e1, S]; simp [hx]
theorem go_iastore (K : Ok W B y rm mL ret l Z h0) {i a m : Nat} {xs : List Int32} {j : Int32} {x : Int32} {ds' : Hp} (ha : ds[i]? = some (a, ia xs)) (hd : decode B pc = .ok (.iastore, 1)) (hj : j.toInt = (m : Int)) (hm : m < xs.length) (hp : pc + 1 = pc') (hs : ds.set i (a, ia (xs.set m x)) = ds')
    (hr : Go W Q ds' k n pc' Ls st) : Go W Q ds k n pc Ls (.int x :: .int j :: .ref a :: st) := by
  subst hs hp
  obtain ⟨p, l, e, R, s, mm, args, below, meth, c, Z, h0⟩ := W
  obtain ⟨k1, k2, k3, k4, k5, k6, k7, k8, rfl, rfl, rfl, rfl⟩ := K
  intro T L N X H
  obtain ⟨hge, cl, A, S, EX⟩ := H.2.1 _ _ ha
  have e1 : j.toNatClampNeg = m := by simp [Int32.toNatClampNeg, hj]
  obtain ⟨T', h', X', eT, Wr1, stp⟩ := stI X k1 k2 rfl A (inb S hj (by simpa using hm)) (g := mkF mm pc Ls (.int x :: .int j :: .ref a :: st)) rfl rfl (hb k3 hd)
  rw [e1] at Wr1 X'
  obtain ⟨s₂, v, h1, rest⟩ := hr T' _ (N.snoc X' hge) X' (by
    rw [eT]
    refine H.set ha Wr1 ⟨_, A.same Wr1, ?_, EX.wr Wr1⟩
    simp [Cell.setSlot, S, List.map_set])
  exact ⟨s₂, v, stp _ h1, rest⟩
theorem go_lastore (K : Ok W B y rm mL ret l Z h0) {i a m : Nat} {xs : List Int64} {j : Int32} {x : Int64} {ds' : Hp} (ha : ds[i]? = some (a, la xs)) (hd : decode B pc = .ok (.lastore, 1)) (hj : j.toInt = (m : Int)) (hm : m < xs.length) (hp : pc + 1 = pc') (hs : ds.set i (a, la (xs.set m x)) = ds')
    (hr : Go W Q ds' k n pc' Ls st) : Go W Q ds k n pc Ls (.long x :: .int j :: .ref a :: st) := by
  subst hs hp
  obtain ⟨p, l, e, R, s, mm, args, below, meth, c, Z, h0⟩ := W
  obtain ⟨k1, k2, k3, k4, k5, k6, k7, k8, rfl, rfl, rfl, rfl⟩ := K
  intro T L N X H
  obtain ⟨hge, cl, A, S, EX⟩ := H.2.1 _ _ ha
  have e1 : j.toNatClampNeg = m := by simp [Int32.toNatClampNeg, hj]
  obtain ⟨T', h', X', eT, Wr1, stp⟩ := stJ X k1 k2 rfl A (inb S hj (by simpa using hm)) (g := mkF mm pc Ls (.long x :: .int j :: .ref a :: st)) rfl rfl (hb k3 hd)
  rw [e1] at Wr1 X'
  obtain ⟨s₂, v, h1, rest⟩ := hr T' _ (N.snoc X' hge) X' (by
    rw [eT]
    refine H.set ha Wr1 ⟨_, A.same Wr1, ?_, EX.wr Wr1⟩
    simp [Cell.setSlot, S, List.map_set])
  exact ⟨s₂, v, stp _ h1, rest⟩
theorem go_bastore (K : Ok W B y rm mL ret l Z h0) {i a m : Nat} {xs : List Int32} {j : Int32} {x : Int32} {ds' : Hp} (ha : ds[i]? = some (a, ba xs)) (hd : decode B pc = .ok (.bastore, 1)) (hj : j.toInt = (m : Int)) (hm : m < xs.length) (hp : pc + 1 = pc') (hs : ds.set i (a, ba (xs.set m (nar .byte x))) = ds')
    (hr : Go W Q ds' k n pc' Ls st) : Go W Q ds k n pc Ls (.int x :: .int j :: .ref a :: st) := by
  subst hs hp
  obtain ⟨p, l, e, R, s, mm, args, below, meth, c, Z, h0⟩ := W
  obtain ⟨k1, k2, k3, k4, k5, k6, k7, k8, rfl, rfl, rfl, rfl⟩ := K
  intro T L N X H
  obtain ⟨hge, cl, A, S, EX⟩ := H.2.1 _ _ ha
  have e1 : j.toNatClampNeg = m := by simp [Int32.toNatClampNeg, hj]
  obtain ⟨T', h', X', eT, Wr1, stp⟩ := stB X k1 k2 rfl A (inb S hj (by simpa using hm)) (g := mkF mm pc Ls (.int x :: .int j :: .ref a :: st)) rfl rfl (hb k3 hd)
  rw [e1] at Wr1 X'
  obtain ⟨s₂, v, h1, rest⟩ := hr T' _ (N.snoc X' hge) X' (by
    rw [eT]
    refine H.set ha Wr1 ⟨_, A.same Wr1, ?_, EX.wr Wr1⟩
    simp [Cell.setSlot, S, List.map_set])
  exact ⟨s₂, v, stp _ h1, rest⟩
theorem go_newI (K : Ok W B y rm mL ret l Z h0) {m cap : Nat} {z : Int32} (w : (Jvm.Cond.arrayClass .int).before a0 Z = true) (hd : decode B pc = .ok (.newarray .int, 2)) (hz : z.toInt = (m : Int)) (hcap : m ≤ cap) (hb8 : cap * 8 ≤ 536870912) (hk : k + 1 ≤ rm.cells) (hn : n + cap ≤ rm.slots) (hp : pc + 2 = pc')
    (hr : ∀ a, h0.size ≤ a → (∀ q ∈ ds, q.1 < a) → Go W Q (ds ++ [(a, ia (List.replicate m 0))]) (k + 1) (n + cap) pc' Ls (.ref a :: st)) : Go W Q ds k n pc Ls (.int z :: st) := by
  subst hp
  obtain ⟨p, l, e, R, s, mm, args, below, meth, c, Z, h0⟩ := W
  obtain ⟨k1, k2, k3, k4, k5, k6, k7, k8, rfl, rfl, rfl, rfl⟩ := K
  intro T L N X H
  have e1 : z.toNatClampNeg = m := by simp [Int32.toNatClampNeg, hz]
  obtain ⟨T', h', cA, X', eT, E, A, EX, stp⟩ := newPE X k1 k2 (aty := .int) w rfl (g := mkF mm pc Ls (.int z :: st)) rfl (hb k3 hd) rfl (by rw [Int32.lt_iff_toInt_lt, hz]; exact Int.not_lt.mpr (Int.natCast_nonneg m)) (cap := cap) (by rw [e1]; exact hcap) hb8 hk hn rfl
  obtain ⟨s₂, v, h1, rest⟩ := hr T.heap.size H.1.1 H.lts T' _ N X' (by
    rw [eT]
    refine H.new E ⟨_, A, ?_, EX⟩
    simp only [newA, e1, List.map_replicate]
    first | rfl | simp [defaultValue, newarray.typeOf])
  exact ⟨s₂, v, stp _ h1, rest⟩
theorem go_newJ (K : Ok W B y rm mL ret l Z h0) {m cap : Nat} {z : Int32} (w : (Jvm.Cond.arrayClass .long).before a0 Z = true) (hd : decode B pc = .ok (.newarray .long, 2)) (hz : z.toInt = (m : Int)) (hcap : m ≤ cap) (hb8 : cap * 8 ≤ 536870912) (hk : k + 1 ≤ rm.cells) (hn : n + cap ≤ rm.slots) (hp : pc + 2 = pc')
    (hr : ∀ a, h0.size ≤ a → (∀ q ∈ ds, q.1 < a) → Go W Q (ds ++ [(a, la (List.replicate m 0))]) (k + 1) (n + cap) pc' Ls (.ref a :: st)) : Go W Q ds k n pc Ls (.int z :: st) := by
  subst hp
  obtain ⟨p, l, e, R, s, mm, args, below, meth, c, Z, h0⟩ := W
  obtain ⟨k1, k2, k3, k4, k5, k6, k7, k8, rfl, rfl, rfl, rfl⟩ := K
  intro T L N X H
  have e1 : z.toNatClampNeg = m := by simp [Int32.toNatClampNeg, hz]
  obtain ⟨T', h', cA, X', eT, E, A, EX, stp⟩ := newPE X k1 k2 (aty := .long) w rfl (g := mkF mm pc Ls (.int z :: st)) rfl (hb k3 hd) rfl (by rw [Int32.lt_iff_toInt_lt, hz]; exact Int.not_lt.mpr (Int.natCast_nonneg m)) (cap := cap) (by rw [e1]; exact hcap) hb8 hk hn rfl
  obtain ⟨s₂, v, h1, rest⟩ := hr T.heap.size H.1.1 H.lts T' _ N X' (by
    rw [eT]
    refine H.new E ⟨_, A, ?_, EX⟩
    simp only [newA, e1, List.map_replicate]
    first | rfl | simp [defaultValue, newarray.typeOf])
  exact ⟨s₂, v, stp _ h1, rest⟩
theorem go_newB (K : Ok W B y rm mL ret l Z h0) {m cap : Nat} {z : Int32} (w : (Jvm.Cond.arrayClass .byte).before a0 Z = true) (hd : decode B pc = .ok (.newarray .byte, 2)) (hz : z.toInt = (m : Int)) (hcap : m ≤ cap) (hb8 : cap * 8 ≤ 536870912) (hk : k + 1 ≤ rm.cells) (hn : n + cap ≤ rm.slots) (hp : pc + 2 = pc')
    (hr : ∀ a, h0.size ≤ a → (∀ q ∈ ds, q.1 < a) → Go W Q (ds ++ [(a, ba (List.replicate m 0))]) (k + 1) (n + cap) pc' Ls (.ref a :: st)) : Go W Q ds k n pc Ls (.int z :: st) := by
  subst hp
  obtain ⟨p, l, e, R, s, mm, args, below, meth, c, Z, h0⟩ := W
  obtain ⟨k1, k2, k3, k4, k5, k6, k7, k8, rfl, rfl, rfl, rfl⟩ := K
  intro T L N X H
  have e1 : z.toNatClampNeg = m := by simp [Int32.toNatClampNeg, hz]
  obtain ⟨T', h', cA, X', eT, E, A, EX, stp⟩ := newPE X k1 k2 (aty := .byte) w rfl (g := mkF mm pc Ls (.int z :: st)) rfl (hb k3 hd) rfl (by rw [Int32.lt_iff_toInt_lt, hz]; exact Int.not_lt.mpr (Int.natCast_nonneg m)) (cap := cap) (by rw [e1]; exact hcap) hb8 hk hn rfl
  obtain ⟨s₂, v, h1, rest⟩ := hr T.heap.size H.1.1 H.lts T' _ N X' (by
    rw [eT]
    refine H.new E ⟨_, A, ?_, EX⟩
    simp only [newA, e1, List.map_replicate]
    first | rfl | simp [defaultValue, newarray.typeOf])
  exact ⟨s₂, v, stp _ h1, rest⟩

/-! calls -/
theorem go_static (K : Ok W B y rm mL ret l Z h0) {y' : MethodName} {B' : ByteArray} {mL' idx Wd : Nat} {ret' : Option FieldType} {rm' : Room} {Q' : Option Value → Hp → Prop} {argsL rest : List Value}
    (w1 : (Jvm.Cond.methodLink y.cls idx y').before a0 Z = true) (w2 : (Jvm.Cond.static y').before a0 Z = true) (w3 : (Jvm.Cond.initialized y'.cls).before a0 Z = true) (w4 : (Jvm.Cond.code y' B' mL' ret').before a0 Z = true)
    (hd : decode B pc = .ok (.invokestatic idx, 3)) (hct : Ct l Z h0 y' B' mL' ret' [] rm' argsL.toArray ds Q') (hlen : ∀ sig, parseMethodDescriptor y'.desc = some sig → argsL.length = sig.parameters.length) (hsz : Ls.size = mL) (hst : st = argsL.reverse ++ rest)
    (hy : y'.cls ≠ "java/lang/invoke/MethodHandle" ∧ y'.cls ≠ "java/lang/invoke/VarHandle") (hW : (rest.map fun v => v.category).sum = Wd) (hf : rm'.frames + 1 ≤ rm.frames) (hl : Wd + (mL' + 11) + rm'.locals ≤ rm.locals) (hk : k + rm'.cells ≤ rm.cells) (hn : n + rm'.slots ≤ rm.slots) (hp : pc + 3 = pc')
    (hr : ∀ v ds', Q' v ds' → Go W Q ds' (k + rm'.cells) (n + rm'.slots) pc' Ls (v.toList ++ rest)) : Go W Q ds k n pc Ls st := by
  subst hp hst
  obtain ⟨p, l, e, R, s, m, args, below, meth, c, Z, h0⟩ := W
  obtain ⟨k1, k2, k3, k4, k5, k6, k7, k8, rfl, rfl, rfl, rfl⟩ := K
  intro T L N X H
  obtain ⟨v, vm₁, ⟨T', L', kk, nn⟩, -, X', ⟨Lc, hQ, l1, y1, z1⟩, stp⟩ := Jvm.LawKit.callS X k1 (y := y') k5 (mvT k2 w1) (mvT k2 w2) (mvT k2 w3) (mvT k2 w4) hy
    (backOf (W := Wd) (Q := fun v h L => Fr h0.size L ∧ ∃ ds', HL Z h0 ds' h ∧ Q' v ds') (hct _ H) k2 w4 w3 hf hl) (g := mkF m pc Ls (argsL.reverse ++ rest)) rfl (hsz.trans k4.symm) (argsL := argsL) (rest := rest) hlen rfl (by show 2 * 0 + _ ≤ _; omega) (hb k3 hd) (fun _ _ => ⟨rfl, rfl, hk, hn⟩)
  dsimp only [Pt.U, Pt.locs, Pt.cells, Pt.slots] at X' l1 y1 z1 stp hQ
  subst l1 y1 z1
  obtain ⟨N', ds', H', hq⟩ := hQ
  obtain ⟨s₂, v₂, h1, rest'⟩ := hr v ds' hq T' _ (N.app N') X' H'
  exact ⟨s₂, v₂, stp _ h1, rest'⟩
theorem go_virtual (K : Ok W B y rm mL ret l Z h0) {y' : MethodName} {B' : ByteArray} {mL' idx Wd i b : Nat} {ret' : Option FieldType} {rm' : Room} {Q' : Option Value → Hp → Prop} {argsL rest : List Value} {C : String} {fs : List ((String × String × String) × Value)}
    (w1 : (Jvm.Cond.methodLink y.cls idx y').before a0 Z = true) (w2 : (Jvm.Cond.declares y').before a0 Z = true) (w3 : (Jvm.Cond.selects C y' y').before a0 Z = true) (w4 : (Jvm.Cond.instanceMethod y').before a0 Z = true) (w5 : (Jvm.Cond.initialized y'.cls).before a0 Z = true) (w6 : (Jvm.Cond.code y' B' mL' ret').before a0 Z = true)
    (ha : ds[i]? = some (b, .inr (C, fs))) (hd : decode B pc = .ok (.invokevirtual idx, 3)) (hct : Ct l Z h0 y' B' mL' ret' [] rm' (.ref b :: argsL).toArray ds Q') (hlen : ∀ sig, parseMethodDescriptor y'.desc = some sig → argsL.length = sig.parameters.length) (hsz : Ls.size = mL) (hst : st = argsL.reverse ++ .ref b :: rest)
    (hy : y'.cls ≠ "java/lang/invoke/MethodHandle" ∧ y'.cls ≠ "java/lang/invoke/VarHandle") (hW : (rest.map fun v => v.category).sum = Wd) (hf : rm'.frames + 1 ≤ rm.frames) (hl : Wd + (mL' + 11) + rm'.locals ≤ rm.locals) (hk : k + rm'.cells ≤ rm.cells) (hn : n + rm'.slots ≤ rm.slots) (hp : pc + 3 = pc')
    (hr : ∀ v ds', Q' v ds' → Go W Q ds' (k + rm'.cells) (n + rm'.slots) pc' Ls (v.toList ++ rest)) : Go W Q ds k n pc Ls st := by
  subst hp hst
  obtain ⟨p, l, e, R, s, m, args, below, meth, c, Z, h0⟩ := W
  obtain ⟨k1, k2, k3, k4, k5, k6, k7, k8, rfl, rfl, rfl, rfl⟩ := K
  intro T L N X H
  obtain ⟨-, E, -⟩ := H.2.1 _ _ ha
  obtain ⟨cB, kB, q1, -, q3⟩ := isOf (T := T) k2 rfl E
  obtain ⟨v, vm₁, ⟨T', L', kk, nn⟩, -, X', ⟨Lc, hQ, l1, y1, z1⟩, stp⟩ := X.virtualBack k1 (y := y') (z := y') k5 (mvT k2 w1) (mvT k2 w2) (notFace_of_selects (args := #[]) (mvT k2 w3)) (mvT k2 w3) (mvT k2 w4) hy
    (backOf (W := Wd) (Q := fun v h L => Fr h0.size L ∧ ∃ ds', HL Z h0 ds' h ∧ Q' v ds') (hct _ H) k2 w6 w5 hf hl) q1 q3 (g := mkF m pc Ls (argsL.reverse ++ .ref b :: rest)) rfl (hsz.trans k4.symm) (Steps.refl _) (argsL := argsL) (rest := rest) hlen rfl (by show 2 * 0 + _ ≤ _; omega) (hb k3 hd) (fun _ _ => ⟨rfl, rfl, hk, hn⟩)
  dsimp only [Pt.U, Pt.locs, Pt.cells, Pt.slots] at X' l1 y1 z1 stp hQ
  subst l1 y1 z1
  obtain ⟨N', ds', H', hq⟩ := hQ
  obtain ⟨s₂, v₂, h1, rest'⟩ := hr v ds' hq T' _ (N.app N') X' H'
  exact ⟨s₂, v₂, stp.trans h1, rest'⟩
theorem go_special (K : Ok W B y rm mL ret l Z h0) {y' : MethodName} {B' : ByteArray} {mL' idx Wd b : Nat} {rm' : Room} {Q' : Option Value → Hp → Prop} {argsL rest : List Value} (hin : y'.name = "<init>")
    (w1 : (Jvm.Cond.methodLink y.cls idx y').before a0 Z = true) (w2 : (Jvm.Cond.instanceMethod y').before a0 Z = true) (w3 : (Jvm.Cond.initialized y'.cls).before a0 Z = true) (w4 : (Jvm.Cond.code y' B' mL' none).before a0 Z = true)
    (hd : decode B pc = .ok (.invokespecial idx, 3)) (hct : Ct l Z h0 y' B' mL' none [] rm' (.ref b :: argsL).toArray ds Q') (hlen : ∀ sig, parseMethodDescriptor y'.desc = some sig → argsL.length = sig.parameters.length) (hsz : Ls.size = mL) (hst : st = argsL.reverse ++ .ref b :: rest)
    (hy : y'.cls ≠ "java/lang/invoke/MethodHandle" ∧ y'.cls ≠ "java/lang/invoke/VarHandle") (hW : (rest.map fun v => v.category).sum = Wd) (hf : rm'.frames + 1 ≤ rm.frames) (hl : Wd + (mL' + 11) + rm'.locals ≤ rm.locals) (hk : k + rm'.cells ≤ rm.cells) (hn : n + rm'.slots ≤ rm.slots) (hp : pc + 3 = pc')
    (hr : ∀ v ds', Q' v ds' → Go W Q ds' (k + rm'.cells) (n + rm'.slots) pc' Ls (v.toList ++ rest)) : Go W Q ds k n pc Ls st := by
  subst hp hst
  obtain ⟨p, l, e, R, s, m, args, below, meth, c, Z, h0⟩ := W
  obtain ⟨k1, k2, k3, k4, k5, k6, k7, k8, rfl, rfl, rfl, rfl⟩ := K
  intro T L N X H
  obtain ⟨v, vm₁, ⟨T', L', kk, nn⟩, -, X', ⟨Lc, hQ, l1, y1, z1⟩, stp⟩ := X.specialBack k1 (y := y') hin k5 (mvT k2 w1) (mvT k2 w2) (mvT k2 w4) hy
    (backOf (W := Wd) (Q := fun v h L => Fr h0.size L ∧ ∃ ds', HL Z h0 ds' h ∧ Q' v ds') (hct _ H) k2 w4 w3 hf hl) (g := mkF m pc Ls (argsL.reverse ++ .ref b :: rest)) rfl (hsz.trans k4.symm) (Steps.refl _) (a := b) (argsL := argsL) (rest := rest) hlen rfl (by show 2 * 0 + _ ≤ _; omega) (hb k3 hd) (fun _ _ => ⟨rfl, rfl, hk, hn⟩)
  dsimp only [Pt.U, Pt.locs, Pt.cells, Pt.slots] at X' l1 y1 z1 stp hQ
  subst l1 y1 z1
  obtain ⟨N', ds', H', hq⟩ := hQ
  obtain ⟨s₂, v₂, h1, rest'⟩ := hr v ds' hq T' _ (N.app N') X' H'
  exact ⟨s₂, v₂, stp.trans h1, rest'⟩
/-! objects -/
theorem go_objinit (K : Ok W B y rm mL ret l Z h0) {idx Wd b : Nat} (w1 : (Jvm.Cond.methodLink y.cls idx Lib.objectInit).before a0 Z = true) (w2 : (Jvm.Cond.instanceMethod Lib.objectInit).before a0 Z = true) (w3 : (Jvm.Cond.code Lib.objectInit ⟨#[0xb1]⟩ 1 none).before a0 Z = true)
    (hd : decode B pc = .ok (.invokespecial idx, 3)) (hsz : Ls.size = mL) (hW : (st.map fun v => v.category).sum = Wd) (hf : 1 ≤ rm.frames) (hl : Wd + 12 ≤ rm.locals) (hp : pc + 3 = pc') (hr : Go W Q ds k n pc' Ls st) : Go W Q ds k n pc Ls (.ref b :: st) := by
  subst hp
  obtain ⟨p, l, e, R, s, m, args, below, meth, c, Z, h0⟩ := W
  obtain ⟨k1, k2, k3, k4, k5, k6, k7, k8, rfl, rfl, rfl, rfl⟩ := K
  intro T L N X H
  obtain ⟨T', X', eT, stp⟩ := initO X k1 k2 k5 w1 w2 w3 rfl (g := mkF m pc Ls (.ref b :: st)) rfl (hsz.trans k4.symm) rfl (hb k3 hd) hf (W := Wd) (by show 2 * 0 + _ ≤ _; omega) hl
  obtain ⟨s₂, v₂, h1, rest'⟩ := hr T' L N X' (by rw [eT]; exact H)
  exact ⟨s₂, v₂, stp _ h1, rest'⟩
theorem go_getfield (K : Ok W B y rm mL ret l Z h0) {idx i j a : Nat} {C O nm d : String} {fs : List ((String × String × String) × Value)} {x : Value} (w : (Jvm.Cond.fieldLink y.cls idx O nm d).before a0 Z = true)
    (ha : ds[i]? = some (a, .inr (C, fs))) (hf : fs[j]? = some ((O, nm, d), x)) (hd : decode B pc = .ok (.getfield idx, 3)) (hp : pc + 3 = pc') (hr : Go W Q ds k n pc' Ls (x :: st)) : Go W Q ds k n pc Ls (.ref a :: st) := by
  subst hp
  obtain ⟨p, l, e, R, s, m, args, below, meth, c, Z, h0⟩ := W
  obtain ⟨k1, k2, k3, k4, k5, k6, k7, k8, rfl, rfl, rfl, rfl⟩ := K
  intro T L N X H
  obtain ⟨-, E, F⟩ := H.2.1 _ _ ha
  obtain ⟨T', X', eT, stp⟩ := getF X k1 k2 k5 (host := "") (Or.inl w) Via.refl rfl (F j _ hf) (g := mkF m pc Ls (.ref a :: st)) rfl rfl (hb k3 hd)
  obtain ⟨s₂, v₂, h1, rest'⟩ := hr T' L N X' (by rw [eT]; exact H)
  exact ⟨s₂, v₂, stp _ h1, rest'⟩
theorem go_putfield (K : Ok W B y rm mL ret l Z h0) {idx i j a kk : Nat} {C O nm d : String} {fs : List ((String × String × String) × Value)} {KS : List (String × String × String)} {x old : Value} {ty : FieldType} {ds' : Hp} (w : (Jvm.Cond.fieldLink y.cls idx O nm d).before a0 Z = true)
    (wl : (Jvm.Cond.lays C O nm d).before a0 Z = true ∨ ((Jvm.Cond.laysFinal C O nm d).before a0 Z = true ∧ y.cls = O ∧ y.name = "<init>")) (wi : (Jvm.Cond.instantiable C kk).before a0 Z = true)
    (ha : ds[i]? = some (a, .inr (C, fs))) (hf : fs[j]? = some ((O, nm, d), old)) (hks : fs.map Prod.fst = KS) (al : ∀ f ∈ KS, Laid Z a0 C f.1 f.2.1 f.2.2 ∧ ∃ t, parseFieldDescriptor f.2.2 = some t) (nd : (KS.map fun f => f.2.1).Nodup)
    (hty : parseFieldDescriptor d = some ty) (hn : narrow ty x = x) (hfi : fits ty x = true) (hd : decode B pc = .ok (.putfield idx, 3)) (hp : pc + 3 = pc') (hs : ds.set i (a, .inr (C, fs.set j ((O, nm, d), x))) = ds')
    (hr : Go W Q ds' k n pc' Ls st) : Go W Q ds k n pc Ls (x :: .ref a :: st) := by
  subst hp hs hks
  have hkey : ∀ j' (f : (String × String × String) × Value), fs[j']? = some f → (fs.map Prod.fst)[j']? = some f.1 := fun j' f h => by rw [List.getElem?_map, h]; rfl
  have hne : ∀ (j' : Nat) (f : (String × String × String) × Value), fs[j']? = some f → j' ≠ j → Jvm.RoadKit.slotOf Z f.1.1 f.1.2.1 f.1.2.2 ≠ Jvm.RoadKit.slotOf Z O nm d := fun j' f hf' hj => by
    obtain ⟨L1, t1, p1⟩ := al f.1 (List.mem_of_getElem? (hkey j' f hf'))
    obtain ⟨L2, t2, p2⟩ := al (O, nm, d) (List.mem_of_getElem? (hkey j _ hf))
    refine slot_ne L1 L2 (fun e => hj ?_) p1 p2
    have q1 : ((fs.map Prod.fst).map fun f => f.2.1)[j']? = some f.1.2.1 := by rw [List.getElem?_map, hkey j' f hf']; rfl
    have q2 : ((fs.map Prod.fst).map fun f => f.2.1)[j]? = some nm := by rw [List.getElem?_map, hkey j _ hf]; rfl
    have lt : j' < ((fs.map Prod.fst).map fun f => f.2.1).length := (List.getElem?_eq_some_iff.mp q1).1
    exact (List.getElem?_inj lt nd).mp (by rw [q1, q2, e])
  obtain ⟨p, l, e, R, s, m, args, below, meth, c, Z, h0⟩ := W
  obtain ⟨k1, k2, k3, k4, k5, k6, k7, k8, rfl, rfl, rfl, rfl⟩ := K
  intro T L N X H
  obtain ⟨hge, E, F⟩ := H.2.1 _ _ ha
  obtain ⟨T', h', X', eT, W1, stp⟩ := putF X k1 k2 k5 (host := "") (Or.inl w) Via.refl rfl (F j _ hf) E (wl.imp id fun q => ⟨q.1, q.2.1, k8.trans q.2.2⟩) wi hty hn hfi (g := mkF m pc Ls (x :: .ref a :: st)) rfl rfl (hb k3 hd)
  obtain ⟨s₂, v₂, h1, rest'⟩ := hr T' _ (N.snoc X' hge) X' (by
    rw [eT]
    refine H.set ha W1 ⟨E.wr W1, fun j' f hf' => ?_⟩
    rw [List.getElem?_set] at hf'
    by_cases e : j = j'
    · subst e
      rw [if_pos rfl, if_pos (List.getElem?_eq_some_iff.mp hf).1] at hf'
      cases hf'
      exact (F j _ hf).same W1
    · rw [if_neg e] at hf'
      exact (F j' f hf').other W1 (Or.inr (hne j' f hf' fun q => e q.symm)))
  exact ⟨s₂, v₂, stp _ h1, rest'⟩
theorem go_getstatic (K : Ok W B y rm mL ret l Z h0) {idx : Nat} {O nm d : String} {x : Value} (w : (Jvm.Cond.fieldLink y.cls idx O nm d).before a0 Z = true) (S : Sta Z h0 O nm d x) (hd : decode B pc = .ok (.getstatic idx, 3)) (hp : pc + 3 = pc')
    (hr : Go W Q ds k n pc' Ls (x :: st)) : Go W Q ds k n pc Ls st := by
  subst hp
  obtain ⟨p, l, e, R, s, m, args, below, meth, c, Z, h0⟩ := W
  obtain ⟨k1, k2, k3, k4, k5, k6, k7, k8, rfl, rfl, rfl, rfl⟩ := K
  intro T L N X H
  obtain ⟨T', X', eT, stp⟩ := getS (host := "") X k1 k2 k5 w Via.refl rfl (S.ext H.1) (g := mkF m pc Ls st) rfl (hb k3 hd)
  obtain ⟨s₂, v₂, h1, rest'⟩ := hr T' L N X' (by rw [eT]; exact H)
  exact ⟨s₂, v₂, stp _ h1, rest'⟩
theorem go_new (K : Ok W B y rm mL ret l Z h0) {idx m : Nat} {C : String} {fs : List ((String × String × String) × Value)} {KS : List (String × String × String)} (w1 : (Jvm.Cond.classLink y.cls idx C).before a0 Z = true) (w2 : (Jvm.Cond.instantiable C m).before a0 Z = true) (w3 : (Jvm.Cond.initialized C).before a0 Z = true)
    (hks : fs.map Prod.fst = KS) (al : ∀ f ∈ KS, Laid Z a0 C f.1 f.2.1 f.2.2 ∧ ∃ t, parseFieldDescriptor f.2.2 = some t) (hdef : fs.map (fun f => (parseFieldDescriptor f.1.2.2).map defaultValue) = fs.map fun f => some f.2) (hd : decode B pc = .ok (.new idx, 3)) (hk : k + 1 ≤ rm.cells) (hn : n + m ≤ rm.slots) (hp : pc + 3 = pc')
    (hr : ∀ a, h0.size ≤ a → (∀ q ∈ ds, q.1 < a) → Go W Q (ds ++ [(a, .inr (C, fs))]) (k + 1) (n + m) pc' Ls (.ref a :: st)) : Go W Q ds k n pc Ls st := by
  subst hp hks
  have hfs : ∀ (j : Nat) (f : (String × String × String) × Value), fs[j]? = some f → Laid Z a0 C f.1.1 f.1.2.1 f.1.2.2 ∧ ∃ ty, parseFieldDescriptor f.1.2.2 = some ty ∧ defaultValue ty = f.2 := fun j f hf => by
    obtain ⟨L1, t1, p1⟩ := al f.1 (List.mem_map_of_mem (List.mem_of_getElem? hf))
    refine ⟨L1, t1, p1, ?_⟩
    have q : (fs.map (fun f => (parseFieldDescriptor f.1.2.2).map defaultValue))[j]? = (fs.map fun f => some f.2)[j]? := by rw [hdef]
    rw [List.getElem?_map, List.getElem?_map, hf] at q
    have q' : (parseFieldDescriptor f.1.2.2).map defaultValue = some f.2 := Option.some.inj q
    rw [p1] at q'
    exact Option.some.inj q'
  obtain ⟨p, l, e, R, s, mm, args, below, meth, c, Z, h0⟩ := W
  obtain ⟨k1, k2, k3, k4, k5, k6, k7, k8, rfl, rfl, rfl, rfl⟩ := K
  intro T L N X H
  obtain ⟨T', h', X', eT, E, A, D, -, stp⟩ := newO X k1 k2 k5 w1 w2 w3 rfl (g := mkF mm pc Ls st) rfl (hb k3 hd) hk hn
  obtain ⟨s₂, v, h1, rest⟩ := hr T.heap.size H.1.1 H.lts T' _ N X' (by
    rw [eT]
    refine H.new E ⟨A, fun j f hf => ?_⟩
    obtain ⟨hL, ty, h1, h2⟩ := hfs j f hf
    rw [← h2]
    exact D hL h1)
  exact ⟨s₂, v, stp _ h1, rest⟩
/-! clone, checkcast, arraycopy -/
theorem OkD.keep {Z : State} {h h' : Heap} {b : Nat} {d : D} {ws : List Addr} (K : Jvm.RoadKit.Keep h h' ws) (O : OkD Z h b d) (hne : b ∉ ws) : OkD Z h' b d := by
  cases d with
  | inl q => obtain ⟨c, A, S, X⟩ := O; exact ⟨c, ⟨K.2.1 b c A.1 hne, A.2⟩, S, X.keep K⟩
  | inr q => exact ⟨O.1.keep K, fun j f hf => (O.2 j f hf).keep K hne⟩
theorem HL.keep {Z : State} {h0 h h' : Heap} {ds : Hp} {i a : Nat} {d d' : D} (H : HL Z h0 ds h) (ha : ds[i]? = some (a, d)) (K : Jvm.RoadKit.Keep h h' [a]) (O : OkD Z h' a d') : HL Z h0 (ds.set i (a, d')) h' := by
  have hge := (H.2.1 i _ ha).1
  have hi : i < ds.length := (List.getElem?_eq_some_iff.mp ha).1
  have key : ∀ j (q : Nat × D), (ds.set i (a, d'))[j]? = some q → (j = i ∧ q = (a, d')) ∨ (j ≠ i ∧ ds[j]? = some q) := fun j q hq => by
    rw [List.getElem?_set] at hq
    by_cases e : i = j
    · subst e; rw [if_pos rfl, if_pos hi] at hq; exact Or.inl ⟨rfl, (Option.some.inj hq).symm⟩
    · rw [if_neg e] at hq; exact Or.inr ⟨fun x => e x.symm, hq⟩
  refine ⟨⟨Nat.le_trans H.1.1 K.1, fun b c q => ?_⟩, fun j q hq => ?_, fun j k q r hq hr he => ?_⟩
  · have hlt : b < h0.size := (Array.getElem?_eq_some_iff.mp q).1
    exact K.2.1 b c (H.1.2 b c q) fun z => by cases List.mem_singleton.mp z; exact absurd hlt (Nat.not_lt.mpr hge)
  · rcases key j q hq with ⟨-, rfl⟩ | ⟨hne, hq'⟩
    · exact ⟨hge, O⟩
    · exact ⟨(H.2.1 j q hq').1, (H.2.1 j q hq').2.keep K fun z => hne (H.2.2 j i q _ hq' ha (List.mem_singleton.mp z))⟩
  · have ad : ∀ j (q : Nat × D), (ds.set i (a, d'))[j]? = some q → ∃ q' : Nat × D, ds[j]? = some q' ∧ q'.1 = q.1 := fun j q hq => by
      rcases key j q hq with ⟨rfl, rfl⟩ | ⟨-, hq'⟩
      · exact ⟨_, ha, rfl⟩
      · exact ⟨q, hq', rfl⟩
    obtain ⟨q', a1, a2⟩ := ad j q hq
    obtain ⟨r', b1, b2⟩ := ad k r hr
    exact H.2.2 j k q' r' a1 b1 (by rw [a2, b2]; exact he)
theorem go_clone (K : Ok W B y rm mL ret l Z h0) {idx i a cap Wd : Nat} {ty : FieldType} {vs : List Value} {ad : String}
    (w1 : (Jvm.Cond.methodLink y.cls idx ⟨ad, "clone", "()Ljava/lang/Object;"⟩).before a0 Z = true) (w2 : (Jvm.Cond.sameMethod ad "java/lang/Object" "clone" "()Ljava/lang/Object;").before a0 Z = true) (w3 : (Jvm.Cond.native ⟨"java/lang/Object", "clone", "()Ljava/lang/Object;"⟩).before a0 Z = true)
    (w4 : (Jvm.Cond.instanceMethod ⟨"java/lang/Object", "clone", "()Ljava/lang/Object;"⟩).before a0 Z = true) (w5 : (Jvm.Cond.selects ad ⟨ad, "clone", "()Ljava/lang/Object;"⟩ ⟨"java/lang/Object", "clone", "()Ljava/lang/Object;"⟩).before a0 Z = true) (w6 : (Jvm.Cond.castable ad "java/lang/Cloneable").before a0 Z = true)
    (had : "[" ++ ty.toString = ad) (ha : ds[i]? = some (a, .inl (ty, vs))) (hfit : ∀ v ∈ vs, fits ty v = true) (hd : decode B pc = .ok (.invokevirtual idx, 3)) (hsz : Ls.size = mL) (hW : (st.map fun v => v.category).sum = Wd) (hf : 1 ≤ rm.frames) (hl : Wd + 14 ≤ rm.locals) (hcap : vs.length ≤ cap) (hk : k + 1 ≤ rm.cells) (hn : n + cap ≤ rm.slots) (hp : pc + 3 = pc')
    (hr : ∀ a', h0.size ≤ a' → (∀ q ∈ ds, q.1 < a') → Go W Q (ds ++ [(a', .inl (ty, vs))]) (k + 1) (n + cap) pc' Ls (.ref a' :: st)) : Go W Q ds k n pc Ls (.ref a :: st) := by
  subst hp
  obtain ⟨p, l, e, R, s, mm, args, below, meth, c, Z, h0⟩ := W
  obtain ⟨k1, k2, k3, k4, k5, k6, k7, k8, rfl, rfl, rfl, rfl⟩ := K
  intro T L N X H
  obtain ⟨hge, cl, A, S, EX⟩ := H.2.1 _ _ ha
  have FC : FitC Z cl := fitC_of A fun i hi v hv => hfit v (by
    rw [S, List.getElem?_toArray] at hv
    exact List.mem_of_getElem? hv)
  obtain ⟨T', h', X', eT, E, A', EX', stp⟩ := cloneA X k1 k2 k5 w1 w2 w3 w4 w5 w6 rfl A (had ▸ EX) FC (g := mkF mm pc Ls (.ref a :: st)) rfl (hsz.trans k4.symm) rfl (hb k3 hd) hf (W := Wd) (cap := cap) (by show 2 * 0 + _ ≤ _; omega) hl (by rw [S, List.size_toArray]; exact hcap) hk hn
  obtain ⟨s₂, v, h1, rest⟩ := hr T.heap.size H.1.1 H.lts T' _ N X' (by
    rw [eT]
    exact H.new E ⟨_, A', S, had ▸ EX'⟩)
  exact ⟨s₂, v, stp _ h1, rest⟩
theorem go_castA (K : Ok W B y rm mL ret l Z h0) {idx i a : Nat} {ty : FieldType} {vs : List Value} {Kc ad : String} (w : (Jvm.Cond.classLink y.cls idx Kc).before a0 Z = true) (wc : (Jvm.Cond.castable ad Kc).before a0 Z = true)
    (had : "[" ++ ty.toString = ad) (ha : ds[i]? = some (a, .inl (ty, vs))) (hd : decode B pc = .ok (.checkcast idx, 3)) (hp : pc + 3 = pc') (hr : Go W Q ds k n pc' Ls (.ref a :: st)) : Go W Q ds k n pc Ls (.ref a :: st) := by
  subst hp
  obtain ⟨p, l, e, R, s, mm, args, below, meth, c, Z, h0⟩ := W
  obtain ⟨k1, k2, k3, k4, k5, k6, k7, k8, rfl, rfl, rfl, rfl⟩ := K
  intro T L N X H
  obtain ⟨hge, cl, A, S, EX⟩ := H.2.1 _ _ ha
  obtain ⟨T', X', eT, stp⟩ := castY X k1 k2 k5 w rfl (Ins.of_exa (had ▸ EX) wc) (g := mkF mm pc Ls (.ref a :: st)) rfl rfl (hb k3 hd)
  obtain ⟨s₂, v, h1, rest⟩ := hr T' L N X' (by rw [eT]; exact H)
  exact ⟨s₂, v, stp _ h1, rest⟩
theorem arv_of {Z : State} {h : Heap} {a : Nat} {xs : List Int32} (O : OkD Z h a (ba xs)) (hl : xs.length < 2147483648) (hfit : ∀ x ∈ xs, fits .byte (.int x) = true) : ∃ kk, Arv Z h a kk .byte xs.length.toInt32 (xs.map Value.int) (.int 0) := by
  obtain ⟨c, A, S, -⟩ := O
  have e1 : xs.length.toInt32.toInt = (xs.length : Int) := len_toInt hl
  have e2 : xs.length.toInt32.toNatClampNeg = xs.length := by simp [Int32.toNatClampNeg, e1]
  have sz : c.slots.size = xs.length := by rw [S]; simp
  refine ⟨c.cls, c, A, rfl, by rw [e2, sz], by rw [Int32.lt_iff_toInt_lt, e1]; exact Int.not_lt.mpr (Int.natCast_nonneg _), fun i hi => ?_, fun i hi => ?_⟩
  · have hi' : i < xs.length := by omega
    rw [S]; simp [List.getD_eq_getElem?_getD, hi']
  · have hi' : i < xs.length := by omega
    have : (xs.map Value.int).getD i (.int 0) = .int xs[i] := by simp [List.getD_eq_getElem?_getD, hi']
    rw [this]; exact hfit _ (List.getElem_mem _)
theorem go_acopy (K : Ok W B y rm mL ret l Z h0) {idx i j a b sp dp m Wd : Nat} {xs ys : List Int32} {js jd jn : Int32} {ds' : Hp}
    (w1 : (Jvm.Cond.methodLink y.cls idx Jvm.Stand.acN).before a0 Z = true) (w2 : (Jvm.Cond.native Jvm.Stand.acN).before a0 Z = true) (w3 : (Jvm.Cond.static Jvm.Stand.acN).before a0 Z = true) (w4 : (Jvm.Cond.initialized "java/lang/System").before a0 Z = true)
    (ha : ds[i]? = some (a, ba xs)) (hb' : ds[j]? = some (b, ba ys)) (hxl : xs.length < 2147483648) (hyl : ys.length < 2147483648) (hxf : ∀ x ∈ xs, fits .byte (.int x) = true) (hyf : ∀ x ∈ ys, fits .byte (.int x) = true)
    (h1 : js.toInt = (sp : Int)) (h2 : jd.toInt = (dp : Int)) (h3 : jn.toInt = (m : Int)) (h4 : sp + m ≤ xs.length) (h5 : dp + m ≤ ys.length) (hd : decode B pc = .ok (.invokestatic idx, 3)) (hsz : Ls.size = mL) (hW : (st.map fun v => v.category).sum = Wd) (hf : 1 ≤ rm.frames) (hl : Wd + (nativeFrameWords "java/lang/System" "arraycopy" 5 + 11) ≤ rm.locals) (hp : pc + 3 = pc')
    (hs : ds.set j (b, ba (ys.take dp ++ (xs.drop sp).take m ++ ys.drop (dp + m))) = ds') (hr : Go W Q ds' k n pc' Ls st) : Go W Q ds k n pc Ls (.int jn :: .int jd :: .ref b :: .int js :: .ref a :: st) := by
  subst hp hs
  obtain ⟨p, l, e, R, s, mm, args, below, meth, c, Z, h0⟩ := W
  obtain ⟨k1, k2, k3, k4, k5, k6, k7, k8, rfl, rfl, rfl, rfl⟩ := K
  intro T L N X H
  obtain ⟨-, Oa⟩ := H.2.1 _ _ ha
  obtain ⟨hge, Ob⟩ := H.2.1 _ _ hb'
  obtain ⟨ka, Aa⟩ := arv_of Oa hxl hxf
  obtain ⟨kb, Ab⟩ := arv_of Ob hyl hyf
  have cl : ∀ {x : Int32} {q : Nat}, x.toInt = (q : Int) → x.toNatClampNeg = q := fun {x q} hq => by simp [Int32.toNatClampNeg, hq]
  have nn : ∀ {x : Int32} {q : Nat}, x.toInt = (q : Int) → ¬ x < 0 := fun {x q} hq => by rw [Int32.lt_iff_toInt_lt, hq]; exact Int.not_lt.mpr (Int.natCast_nonneg _)
  have lx : xs.length.toInt32.toNatClampNeg = xs.length := cl (len_toInt hxl)
  have ly : ys.length.toInt32.toNatClampNeg = ys.length := cl (len_toInt hyl)
  obtain ⟨T', h', L', X', eT, N', Kp, A', stp⟩ := cpA X k1 k2 k5 w1 w2 w3 w4 rfl Aa Ab (Or.inl ⟨rfl, rfl⟩) (nn h1) (nn h2) (nn h3) (by rw [cl h1, cl h3, lx]; exact h4) (by rw [cl h2, cl h3, ly]; exact h5) rfl (by rw [cl h2, cl h3, List.length_map]; exact h5) N hge
    (g := mkF mm pc Ls (.int jn :: .int jd :: .ref b :: .int js :: .ref a :: st)) rfl (hsz.trans k4.symm) rfl (hb k3 hd) hf (W := Wd) (by show 2 * 0 + _ ≤ _; omega) hl
  rw [cl h1, cl h2, cl h3] at A'
  have us : ((List.range m).map fun i => (xs.map Value.int).getD (sp + i) (.int 0)) = ((xs.drop sp).take m).map Value.int := by
    apply List.ext_getElem?
    intro t
    by_cases ht : t < m
    · have : sp + t < xs.length := by omega
      simp [ht, List.getD_eq_getElem?_getD, this, List.getElem?_take, List.getElem?_drop]
    · simp [ht, List.getElem?_take]
  rw [us] at A'
  obtain ⟨s₂, v, h1', rest⟩ := hr T' L' N' X' (by
    rw [eT]
    obtain ⟨c', Ar, -, Sz, -, Hs, -⟩ := A'
    obtain ⟨cb, Ab0, Sb, EXb⟩ := Ob
    refine H.keep hb' Kp ⟨c', Ar, ?_, EXb.keep Kp⟩
    rw [ly] at Sz
    apply Array.ext_getElem?
    intro t
    by_cases ht : t < c'.slots.size
    · have hl : (ys.take dp ++ (xs.drop sp).take m ++ ys.drop (dp + m)).length = ys.length := by simp; omega
      have hlt : t < (ys.take dp ++ (xs.drop sp).take m ++ ys.drop (dp + m)).length := by omega
      rw [Hs t ht, List.getElem?_toArray]
      have q : List.map Value.int ys = List.map Value.int ys := rfl
      rw [← List.map_take, ← List.map_drop, ← List.map_append, ← List.map_append, List.getD_eq_getElem?_getD, List.getElem?_map, List.getElem?_eq_getElem hlt]; rfl
    · rw [Array.getElem?_eq_none (by omega), List.getElem?_toArray, List.getElem?_eq_none (by simp; omega)])
  exact ⟨s₂, v, stp _ h1', rest⟩
end Steps
theorem at_last {ds : Hp} {e : Nat × D} : (ds ++ [e])[ds.length]? = some e := List.getElem?_concat_length
theorem at_left {ds ext : Hp} {q : Nat × D} {i : Nat} (h : ds[i]? = some q) : (ds ++ ext)[i]? = some q := by
  rw [List.getElem?_append_left (List.getElem?_eq_some_iff.mp h).1]; exact h
theorem at_ext {ds ext : Hp} {q : Nat × D} {t : Nat} (h : ext[t]? = some q) : (ds ++ ext)[ds.length + t]? = some q := by
  rw [List.getElem?_append_right (Nat.le_add_right _ _), Nat.add_sub_cancel_left]; exact h
theorem set_ext {ds ext : Hp} {e : Nat × D} {t : Nat} : (ds ++ ext).set (ds.length + t) e = ds ++ ext.set t e := by
  rw [List.set_append, if_neg (Nat.not_lt.mpr (Nat.le_add_right _ _)), Nat.add_sub_cancel_left]
theorem set_last {ds : Hp} {e e' : Nat × D} : (ds ++ [e]).set ds.length e' = ds ++ [e'] := by
  rw [List.set_append, if_neg (Nat.lt_irrefl _), Nat.sub_self]; rfl
/-! small facts on ints -/
theorem i0 : (0 : Int32).toInt = 0 := rfl
theorem ibound (x : Int32) : -2147483648 ≤ x.toInt ∧ x.toInt < 2147483648 := ⟨x.le_toInt, x.toInt_lt⟩
theorem iadd_eq {x z : Int32} (h1 : -2147483648 ≤ x.toInt + z.toInt) (h2 : x.toInt + z.toInt < 2147483648) : (x + z).toInt = x.toInt + z.toInt := XT.add32 ⟨h1, h2⟩
theorem isub_eq {x z : Int32} (h1 : -2147483648 ≤ x.toInt - z.toInt) (h2 : x.toInt - z.toInt < 2147483648) : (x - z).toInt = x.toInt - z.toInt := XT.sub32 ⟨h1, h2⟩
theorem iinj {x z : Int32} (h : x.toInt = z.toInt) : x = z := Int32.toInt_inj.mp h
theorem drop_cons {α : Type} {xs rest : List α} {x : α} {j : Nat} (h : xs.drop j = x :: rest) : xs[j]? = some x ∧ xs.drop (j + 1) = rest ∧ j < xs.length := by
  have h1 : xs[j]? = some x := by
    have q : (xs.drop j)[0]? = some x := by rw [h]; rfl
    rwa [List.getElem?_drop, Nat.add_zero] at q
  refine ⟨h1, ?_, (List.getElem?_eq_some_iff.mp h1).1⟩
  have q : (xs.drop j).drop 1 = rest := by rw [h]; rfl
  rwa [List.drop_drop] at q
theorem drop_none {α : Type} {xs : List α} {j : Nat} (h : xs.drop j = []) : xs.length ≤ j := List.drop_eq_nil_iff.mp h
theorem isucc {x : Int32} {j : Nat} (h : x.toInt = (j : Int)) (hj : j < 2147483647) : (x + 1).toInt = ((j + 1 : Nat) : Int) := by
  have q : (1 : Int32).toInt = 1 := rfl
  rw [iadd_eq (by rw [q]; omega) (by rw [q]; omega), q]; omega
theorem ilt5 {x : Int32} (h0 : 0 ≤ x.toInt) (h1 : x.toInt < 5) : x = 0 ∨ x = 1 ∨ x = 2 ∨ x = 3 ∨ x = 4 := by
  have : x.toInt = 0 ∨ x.toInt = 1 ∨ x.toInt = 2 ∨ x.toInt = 3 ∨ x.toInt = 4 := by omega
  rcases this with e | e | e | e | e
  · exact Or.inl (iinj e)
  · exact Or.inr (Or.inl (iinj e))
  · exact Or.inr (Or.inr (Or.inl (iinj e)))
  · exact Or.inr (Or.inr (Or.inr (Or.inl (iinj e))))
  · exact Or.inr (Or.inr (Or.inr (Or.inr (iinj e))))
theorem ilt4 {x : Int32} (h0 : 0 ≤ x.toInt) (h1 : x.toInt < 4) : x = 0 ∨ x = 1 ∨ x = 2 ∨ x = 3 := by
  have : x.toInt = 0 ∨ x.toInt = 1 ∨ x.toInt = 2 ∨ x.toInt = 3 := by omega
  rcases this with e | e | e | e
  · exact Or.inl (iinj e)
  · exact Or.inr (Or.inl (iinj e))
  · exact Or.inr (Or.inr (Or.inl (iinj e)))
  · exact Or.inr (Or.inr (Or.inr (iinj e)))
theorem len32 {m : Nat} (h : m < 2147483648) : (m.toInt32).toInt = (m : Int) := len_toInt h
end Jvm.Own
namespace Jvm.Pilot.@@N@@
open Jvm Jvm.ClassFile Sem Op Lib Jvm.Free Jvm.Stand Jvm.LawKit Jvm.RoadKit Jvm.Own Bundle Jvm.Pilot.@@N@@.Jvm.D
theorem pf_0 : plainFor x = true := by first | exact plainFor_of_name (by first | (simp [plainName, overriddenIn]; done) | decide +kernel) | decide +kernel

theorem pf_1 : plainFor (⟨"com/example/xpath_reasoner/xpathreasoner/reason/InterleavingsNextChoicePinLaw", "binom", "(JI)J"⟩ : MethodName) = true := by first | exact plainFor_of_name (by first | (simp [plainName, overriddenIn]; done) | decide +kernel) | decide +kernel
theorem d1_0 : decode method_3_code 0 = .ok (.iload_n 2, 1) := by decide +kernel
theorem d1_1 : decode method_3_code 1 = .ok (.ifCond .ne 5, 3) := by decide +kernel
theorem d1_4 : decode method_3_code 4 = .ok (.lconst 1, 1) := by decide +kernel
theorem d1_5 : decode method_3_code 5 = .ok (.lreturn, 1) := by decide +kernel
theorem d1_6 : decode method_3_code 6 = .ok (.iload_n 2, 1) := by decide +kernel
theorem d1_7 : decode method_3_code 7 = .ok (.iconst 1, 1) := by decide +kernel
theorem d1_8 : decode method_3_code 8 = .ok (.if_icmp .ne 5, 3) := by decide +kernel
theorem d1_11 : decode method_3_code 11 = .ok (.lload_n 0, 1) := by decide +kernel
theorem d1_12 : decode method_3_code 12 = .ok (.lreturn, 1) := by decide +kernel
theorem d1_13 : decode method_3_code 13 = .ok (.iload_n 2, 1) := by decide +kernel
theorem d1_14 : decode method_3_code 14 = .ok (.iconst 2, 1) := by decide +kernel
theorem d1_15 : decode method_3_code 15 = .ok (.if_icmp .ne 13, 3) := by decide +kernel
theorem d1_18 : decode method_3_code 18 = .ok (.lload_n 0, 1) := by decide +kernel
theorem d1_19 : decode method_3_code 19 = .ok (.lload_n 0, 1) := by decide +kernel
theorem d1_20 : decode method_3_code 20 = .ok (.lconst 1, 1) := by decide +kernel
theorem d1_21 : decode method_3_code 21 = .ok (.lsub, 1) := by decide +kernel
theorem d1_22 : decode method_3_code 22 = .ok (.lmul, 1) := by decide +kernel
theorem d1_23 : decode method_3_code 23 = .ok (.ldc2_w 27, 3) := by decide +kernel
theorem d1_26 : decode method_3_code 26 = .ok (.ldiv, 1) := by decide +kernel
theorem d1_27 : decode method_3_code 27 = .ok (.lreturn, 1) := by decide +kernel
theorem d1_28 : decode method_3_code 28 = .ok (.lload_n 0, 1) := by decide +kernel
theorem d1_29 : decode method_3_code 29 = .ok (.lload_n 0, 1) := by decide +kernel
theorem d1_30 : decode method_3_code 30 = .ok (.lconst 1, 1) := by decide +kernel
theorem d1_31 : decode method_3_code 31 = .ok (.lsub, 1) := by decide +kernel
theorem d1_32 : decode method_3_code 32 = .ok (.lmul, 1) := by decide +kernel
theorem d1_33 : decode method_3_code 33 = .ok (.lload_n 0, 1) := by decide +kernel
theorem d1_34 : decode method_3_code 34 = .ok (.ldc2_w 27, 3) := by decide +kernel
theorem d1_37 : decode method_3_code 37 = .ok (.lsub, 1) := by decide +kernel
theorem d1_38 : decode method_3_code 38 = .ok (.lmul, 1) := by decide +kernel
theorem d1_39 : decode method_3_code 39 = .ok (.ldc2_w 29, 3) := by decide +kernel
theorem d1_42 : decode method_3_code 42 = .ok (.ldiv, 1) := by decide +kernel
theorem d1_43 : decode method_3_code 43 = .ok (.lreturn, 1) := by decide +kernel
theorem pf_2 : plainFor (⟨"com/example/xpath_reasoner/xpathreasoner/reason/InterleavingsNextChoicePinLaw", "rank", "([III)J"⟩ : MethodName) = true := by first | exact plainFor_of_name (by first | (simp [plainName, overriddenIn]; done) | decide +kernel) | decide +kernel
theorem d2_0 : decode method_4_code 0 = .ok (.lconst 0, 1) := by decide +kernel
theorem d2_1 : decode method_4_code 1 = .ok (.lstore_n 3, 1) := by decide +kernel
theorem d2_2 : decode method_4_code 2 = .ok (.iload_n 1, 1) := by decide +kernel
theorem d2_3 : decode method_4_code 3 = .ok (.ifCond .le 20, 3) := by decide +kernel
theorem d2_6 : decode method_4_code 6 = .ok (.lload_n 3, 1) := by decide +kernel
theorem d2_7 : decode method_4_code 7 = .ok (.iload_n 2, 1) := by decide +kernel
theorem d2_8 : decode method_4_code 8 = .ok (.iconst 1, 1) := by decide +kernel
theorem d2_9 : decode method_4_code 9 = .ok (.isub, 1) := by decide +kernel
theorem d2_10 : decode method_4_code 10 = .ok (.aload_n 0, 1) := by decide +kernel
theorem d2_11 : decode method_4_code 11 = .ok (.iload_n 1, 1) := by decide +kernel
theorem d2_12 : decode method_4_code 12 = .ok (.iconst 1, 1) := by decide +kernel
theorem d2_13 : decode method_4_code 13 = .ok (.isub, 1) := by decide +kernel
theorem d2_14 : decode method_4_code 14 = .ok (.iaload, 1) := by decide +kernel
theorem d2_15 : decode method_4_code 15 = .ok (.isub, 1) := by decide +kernel
theorem d2_16 : decode method_4_code 16 = .ok (.i2l, 1) := by decide +kernel
theorem d2_17 : decode method_4_code 17 = .ok (.iconst 1, 1) := by decide +kernel
theorem d2_18 : decode method_4_code 18 = .ok (.invokestatic 7, 3) := by decide +kernel
theorem d2_21 : decode method_4_code 21 = .ok (.ladd, 1) := by decide +kernel
theorem d2_22 : decode method_4_code 22 = .ok (.lstore_n 3, 1) := by decide +kernel
theorem d2_23 : decode method_4_code 23 = .ok (.iload_n 1, 1) := by decide +kernel
theorem d2_24 : decode method_4_code 24 = .ok (.iconst 1, 1) := by decide +kernel
theorem d2_25 : decode method_4_code 25 = .ok (.if_icmp .le 20, 3) := by decide +kernel
theorem d2_28 : decode method_4_code 28 = .ok (.lload_n 3, 1) := by decide +kernel
theorem d2_29 : decode method_4_code 29 = .ok (.iload_n 2, 1) := by decide +kernel
theorem d2_30 : decode method_4_code 30 = .ok (.iconst 1, 1) := by decide +kernel
theorem d2_31 : decode method_4_code 31 = .ok (.isub, 1) := by decide +kernel
theorem d2_32 : decode method_4_code 32 = .ok (.aload_n 0, 1) := by decide +kernel
theorem d2_33 : decode method_4_code 33 = .ok (.iload_n 1, 1) := by decide +kernel
theorem d2_34 : decode method_4_code 34 = .ok (.iconst 2, 1) := by decide +kernel
theorem d2_35 : decode method_4_code 35 = .ok (.isub, 1) := by decide +kernel
theorem d2_36 : decode method_4_code 36 = .ok (.iaload, 1) := by decide +kernel
theorem d2_37 : decode method_4_code 37 = .ok (.isub, 1) := by decide +kernel
theorem d2_38 : decode method_4_code 38 = .ok (.i2l, 1) := by decide +kernel
theorem d2_39 : decode method_4_code 39 = .ok (.iconst 2, 1) := by decide +kernel
theorem d2_40 : decode method_4_code 40 = .ok (.invokestatic 7, 3) := by decide +kernel
theorem d2_43 : decode method_4_code 43 = .ok (.ladd, 1) := by decide +kernel
theorem d2_44 : decode method_4_code 44 = .ok (.lstore_n 3, 1) := by decide +kernel
theorem d2_45 : decode method_4_code 45 = .ok (.iload_n 1, 1) := by decide +kernel
theorem d2_46 : decode method_4_code 46 = .ok (.iconst 2, 1) := by decide +kernel
theorem d2_47 : decode method_4_code 47 = .ok (.if_icmp .le 20, 3) := by decide +kernel
theorem d2_50 : decode method_4_code 50 = .ok (.lload_n 3, 1) := by decide +kernel
theorem d2_51 : decode method_4_code 51 = .ok (.iload_n 2, 1) := by decide +kernel
theorem d2_52 : decode method_4_code 52 = .ok (.iconst 1, 1) := by decide +kernel
theorem d2_53 : decode method_4_code 53 = .ok (.isub, 1) := by decide +kernel
theorem d2_54 : decode method_4_code 54 = .ok (.aload_n 0, 1) := by decide +kernel
theorem d2_55 : decode method_4_code 55 = .ok (.iload_n 1, 1) := by decide +kernel
theorem d2_56 : decode method_4_code 56 = .ok (.iconst 3, 1) := by decide +kernel
theorem d2_57 : decode method_4_code 57 = .ok (.isub, 1) := by decide +kernel
theorem d2_58 : decode method_4_code 58 = .ok (.iaload, 1) := by decide +kernel
theorem d2_59 : decode method_4_code 59 = .ok (.isub, 1) := by decide +kernel
theorem d2_60 : decode method_4_code 60 = .ok (.i2l, 1) := by decide +kernel
theorem d2_61 : decode method_4_code 61 = .ok (.iconst 3, 1) := by decide +kernel
theorem d2_62 : decode method_4_code 62 = .ok (.invokestatic 7, 3) := by decide +kernel
theorem d2_65 : decode method_4_code 65 = .ok (.ladd, 1) := by decide +kernel
theorem d2_66 : decode method_4_code 66 = .ok (.lstore_n 3, 1) := by decide +kernel
theorem d2_67 : decode method_4_code 67 = .ok (.iload_n 2, 1) := by decide +kernel
theorem d2_68 : decode method_4_code 68 = .ok (.i2l, 1) := by decide +kernel
theorem d2_69 : decode method_4_code 69 = .ok (.iload_n 1, 1) := by decide +kernel
theorem d2_70 : decode method_4_code 70 = .ok (.invokestatic 7, 3) := by decide +kernel
theorem d2_73 : decode method_4_code 73 = .ok (.lconst 1, 1) := by decide +kernel
theorem d2_74 : decode method_4_code 74 = .ok (.lsub, 1) := by decide +kernel
theorem d2_75 : decode method_4_code 75 = .ok (.lload_n 3, 1) := by decide +kernel
theorem d2_76 : decode method_4_code 76 = .ok (.lsub, 1) := by decide +kernel
theorem d2_77 : decode method_4_code 77 = .ok (.lreturn, 1) := by decide +kernel
theorem pf_3 : plainFor (⟨"com/example/xpath_reasoner/xpathreasoner/reason/Interleavings", "nextChoice", "([II)Z"⟩ : MethodName) = true := by first | exact plainFor_of_name (by first | (simp [plainName, overriddenIn]; done) | decide +kernel) | decide +kernel
theorem d3_0 : decode prog_135_method_12_code 0 = .ok (.aload_n 0, 1) := by decide +kernel
theorem d3_1 : decode prog_135_method_12_code 1 = .ok (.arraylength, 1) := by decide +kernel
theorem d3_2 : decode prog_135_method_12_code 2 = .ok (.iconst 1, 1) := by decide +kernel
theorem d3_3 : decode prog_135_method_12_code 3 = .ok (.isub, 1) := by decide +kernel
theorem d3_4 : decode prog_135_method_12_code 4 = .ok (.istore_n 2, 1) := by decide +kernel
theorem d3_5 : decode prog_135_method_12_code 5 = .ok (.iload_n 2, 1) := by decide +kernel
theorem d3_6 : decode prog_135_method_12_code 6 = .ok (.ifCond .lt 21, 3) := by decide +kernel
theorem d3_9 : decode prog_135_method_12_code 9 = .ok (.aload_n 0, 1) := by decide +kernel
theorem d3_10 : decode prog_135_method_12_code 10 = .ok (.iload_n 2, 1) := by decide +kernel
theorem d3_11 : decode prog_135_method_12_code 11 = .ok (.iaload, 1) := by decide +kernel
theorem d3_12 : decode prog_135_method_12_code 12 = .ok (.iload_n 1, 1) := by decide +kernel
theorem d3_13 : decode prog_135_method_12_code 13 = .ok (.aload_n 0, 1) := by decide +kernel
theorem d3_14 : decode prog_135_method_12_code 14 = .ok (.arraylength, 1) := by decide +kernel
theorem d3_15 : decode prog_135_method_12_code 15 = .ok (.isub, 1) := by decide +kernel
theorem d3_16 : decode prog_135_method_12_code 16 = .ok (.iload_n 2, 1) := by decide +kernel
theorem d3_17 : decode prog_135_method_12_code 17 = .ok (.iadd, 1) := by decide +kernel
theorem d3_18 : decode prog_135_method_12_code 18 = .ok (.if_icmp .ne 9, 3) := by decide +kernel
theorem d3_21 : decode prog_135_method_12_code 21 = .ok (.iinc 2 (-1), 3) := by decide +kernel
theorem d3_24 : decode prog_135_method_12_code 24 = .ok (.goto (-19), 3) := by decide +kernel
theorem d3_27 : decode prog_135_method_12_code 27 = .ok (.iload_n 2, 1) := by decide +kernel
theorem d3_28 : decode prog_135_method_12_code 28 = .ok (.ifCond .ge 5, 3) := by decide +kernel
theorem d3_31 : decode prog_135_method_12_code 31 = .ok (.iconst 0, 1) := by decide +kernel
theorem d3_32 : decode prog_135_method_12_code 32 = .ok (.ireturn, 1) := by decide +kernel
theorem d3_33 : decode prog_135_method_12_code 33 = .ok (.aload_n 0, 1) := by decide +kernel
theorem d3_34 : decode prog_135_method_12_code 34 = .ok (.iload_n 2, 1) := by decide +kernel
theorem d3_35 : decode prog_135_method_12_code 35 = .ok (.dup2, 1) := by decide +kernel
theorem d3_36 : decode prog_135_method_12_code 36 = .ok (.iaload, 1) := by decide +kernel
theorem d3_37 : decode prog_135_method_12_code 37 = .ok (.iconst 1, 1) := by decide +kernel
theorem d3_38 : decode prog_135_method_12_code 38 = .ok (.iadd, 1) := by decide +kernel
theorem d3_39 : decode prog_135_method_12_code 39 = .ok (.iastore, 1) := by decide +kernel
theorem d3_40 : decode prog_135_method_12_code 40 = .ok (.iload_n 2, 1) := by decide +kernel
theorem d3_41 : decode prog_135_method_12_code 41 = .ok (.iconst 1, 1) := by decide +kernel
theorem d3_42 : decode prog_135_method_12_code 42 = .ok (.iadd, 1) := by decide +kernel
theorem d3_43 : decode prog_135_method_12_code 43 = .ok (.istore_n 3, 1) := by decide +kernel
theorem d3_44 : decode prog_135_method_12_code 44 = .ok (.iload_n 3, 1) := by decide +kernel
theorem d3_45 : decode prog_135_method_12_code 45 = .ok (.aload_n 0, 1) := by decide +kernel
theorem d3_46 : decode prog_135_method_12_code 46 = .ok (.arraylength, 1) := by decide +kernel
theorem d3_47 : decode prog_135_method_12_code 47 = .ok (.if_icmp .ge 19, 3) := by decide +kernel
theorem d3_50 : decode prog_135_method_12_code 50 = .ok (.aload_n 0, 1) := by decide +kernel
theorem d3_51 : decode prog_135_method_12_code 51 = .ok (.iload_n 3, 1) := by decide +kernel
theorem d3_52 : decode prog_135_method_12_code 52 = .ok (.aload_n 0, 1) := by decide +kernel
theorem d3_53 : decode prog_135_method_12_code 53 = .ok (.iload_n 3, 1) := by decide +kernel
theorem d3_54 : decode prog_135_method_12_code 54 = .ok (.iconst 1, 1) := by decide +kernel
theorem d3_55 : decode prog_135_method_12_code 55 = .ok (.isub, 1) := by decide +kernel
theorem d3_56 : decode prog_135_method_12_code 56 = .ok (.iaload, 1) := by decide +kernel
theorem d3_57 : decode prog_135_method_12_code 57 = .ok (.iconst 1, 1) := by decide +kernel
theorem d3_58 : decode prog_135_method_12_code 58 = .ok (.iadd, 1) := by decide +kernel
theorem d3_59 : decode prog_135_method_12_code 59 = .ok (.iastore, 1) := by decide +kernel
theorem d3_60 : decode prog_135_method_12_code 60 = .ok (.iinc 3 1, 3) := by decide +kernel
theorem d3_63 : decode prog_135_method_12_code 63 = .ok (.goto (-19), 3) := by decide +kernel
theorem d3_66 : decode prog_135_method_12_code 66 = .ok (.iconst 1, 1) := by decide +kernel
theorem d3_67 : decode prog_135_method_12_code 67 = .ok (.ireturn, 1) := by decide +kernel
theorem pf_4 : plainFor (⟨"com/example/xpath_reasoner/xpathreasoner/reason/InterleavingsNextChoicePinLaw", "valid", "([III)Z"⟩ : MethodName) = true := by first | exact plainFor_of_name (by first | (simp [plainName, overriddenIn]; done) | decide +kernel) | decide +kernel
theorem d4_0 : decode method_5_code 0 = .ok (.iload_n 1, 1) := by decide +kernel
theorem d4_1 : decode method_5_code 1 = .ok (.ifCond .ne 5, 3) := by decide +kernel
theorem d4_4 : decode method_5_code 4 = .ok (.iconst 1, 1) := by decide +kernel
theorem d4_5 : decode method_5_code 5 = .ok (.ireturn, 1) := by decide +kernel
theorem d4_6 : decode method_5_code 6 = .ok (.aload_n 0, 1) := by decide +kernel
theorem d4_7 : decode method_5_code 7 = .ok (.iconst 0, 1) := by decide +kernel
theorem d4_8 : decode method_5_code 8 = .ok (.iaload, 1) := by decide +kernel
theorem d4_9 : decode method_5_code 9 = .ok (.ifCond .ge 5, 3) := by decide +kernel
theorem d4_12 : decode method_5_code 12 = .ok (.iconst 0, 1) := by decide +kernel
theorem d4_13 : decode method_5_code 13 = .ok (.ireturn, 1) := by decide +kernel
theorem d4_14 : decode method_5_code 14 = .ok (.iload_n 1, 1) := by decide +kernel
theorem d4_15 : decode method_5_code 15 = .ok (.iconst 1, 1) := by decide +kernel
theorem d4_16 : decode method_5_code 16 = .ok (.if_icmp .le 14, 3) := by decide +kernel
theorem d4_19 : decode method_5_code 19 = .ok (.aload_n 0, 1) := by decide +kernel
theorem d4_20 : decode method_5_code 20 = .ok (.iconst 0, 1) := by decide +kernel
theorem d4_21 : decode method_5_code 21 = .ok (.iaload, 1) := by decide +kernel
theorem d4_22 : decode method_5_code 22 = .ok (.aload_n 0, 1) := by decide +kernel
theorem d4_23 : decode method_5_code 23 = .ok (.iconst 1, 1) := by decide +kernel
theorem d4_24 : decode method_5_code 24 = .ok (.iaload, 1) := by decide +kernel
theorem d4_25 : decode method_5_code 25 = .ok (.if_icmp .lt 5, 3) := by decide +kernel
theorem d4_28 : decode method_5_code 28 = .ok (.iconst 0, 1) := by decide +kernel
theorem d4_29 : decode method_5_code 29 = .ok (.ireturn, 1) := by decide +kernel
theorem d4_30 : decode method_5_code 30 = .ok (.iload_n 1, 1) := by decide +kernel
theorem d4_31 : decode method_5_code 31 = .ok (.iconst 2, 1) := by decide +kernel
theorem d4_32 : decode method_5_code 32 = .ok (.if_icmp .le 14, 3) := by decide +kernel
theorem d4_35 : decode method_5_code 35 = .ok (.aload_n 0, 1) := by decide +kernel
theorem d4_36 : decode method_5_code 36 = .ok (.iconst 1, 1) := by decide +kernel
theorem d4_37 : decode method_5_code 37 = .ok (.iaload, 1) := by decide +kernel
theorem d4_38 : decode method_5_code 38 = .ok (.aload_n 0, 1) := by decide +kernel
theorem d4_39 : decode method_5_code 39 = .ok (.iconst 2, 1) := by decide +kernel
theorem d4_40 : decode method_5_code 40 = .ok (.iaload, 1) := by decide +kernel
theorem d4_41 : decode method_5_code 41 = .ok (.if_icmp .lt 5, 3) := by decide +kernel
theorem d4_44 : decode method_5_code 44 = .ok (.iconst 0, 1) := by decide +kernel
theorem d4_45 : decode method_5_code 45 = .ok (.ireturn, 1) := by decide +kernel
theorem d4_46 : decode method_5_code 46 = .ok (.aload_n 0, 1) := by decide +kernel
theorem d4_47 : decode method_5_code 47 = .ok (.iload_n 1, 1) := by decide +kernel
theorem d4_48 : decode method_5_code 48 = .ok (.iconst 1, 1) := by decide +kernel
theorem d4_49 : decode method_5_code 49 = .ok (.isub, 1) := by decide +kernel
theorem d4_50 : decode method_5_code 50 = .ok (.iaload, 1) := by decide +kernel
theorem d4_51 : decode method_5_code 51 = .ok (.iload_n 2, 1) := by decide +kernel
theorem d4_52 : decode method_5_code 52 = .ok (.if_icmp .ge 7, 3) := by decide +kernel
theorem d4_55 : decode method_5_code 55 = .ok (.iconst 1, 1) := by decide +kernel
theorem d4_56 : decode method_5_code 56 = .ok (.goto 4, 3) := by decide +kernel
theorem d4_59 : decode method_5_code 59 = .ok (.iconst 0, 1) := by decide +kernel
theorem d4_60 : decode method_5_code 60 = .ok (.ireturn, 1) := by decide +kernel
theorem pd__JI_J : parseMethodDescriptor "(JI)J" = some ⟨[.long, .int], (some .long)⟩ := by decide +kernel
theorem pd___III_J : parseMethodDescriptor "([III)J" = some ⟨[(.array .int), .int, .int], (some .long)⟩ := by decide +kernel
theorem pd___II_Z : parseMethodDescriptor "([II)Z" = some ⟨[(.array .int), .int], (some .boolean)⟩ := by decide +kernel
theorem pd___III_Z : parseMethodDescriptor "([III)Z" = some ⟨[(.array .int), .int, .int], (some .boolean)⟩ := by decide +kernel
def own_c0 (_ : Int64) : Int64 := 1
def own_c1 (x : Int64) : Int64 := x
def own_c2 (x : Int64) : Int64 := (x * (x - 1)) / 2
def own_c3 (x : Int64) : Int64 := ((x * (x - 1)) * (x - 2)) / 6
def own_rk0 (n : Int32) : Int64 := (own_c0 n.toInt64 - 1) - 0
def own_rk1 (n x0 : Int32) : Int64 := (own_c1 n.toInt64 - 1) - (0 + own_c1 ((n - 1) - x0).toInt64)
def own_rk2 (n x0 x1 : Int32) : Int64 := (own_c2 n.toInt64 - 1) - ((0 + own_c1 ((n - 1) - x1).toInt64) + own_c2 ((n - 1) - x0).toInt64)
def own_rk3 (n x0 x1 x2 : Int32) : Int64 := (own_c3 n.toInt64 - 1) - (((0 + own_c1 ((n - 1) - x2).toInt64) + own_c2 ((n - 1) - x1).toInt64) + own_c3 ((n - 1) - x0).toInt64)
def own_nx0 (_ : Int32) : Int32 × List Int32 := (0, [])
def own_nx1 (n x0 : Int32) : Int32 × List Int32 := if x0 ≠ (n - 1) + 0 then (1, [x0 + 1]) else (0, [x0])
def own_nx2 (n x0 x1 : Int32) : Int32 × List Int32 := if x1 ≠ (n - 2) + 1 then (1, [x0, x1 + 1]) else if x0 ≠ (n - 2) + 0 then (1, [x0 + 1, (x0 + 1) + 1]) else (0, [x0, x1])
def own_nx3 (n x0 x1 x2 : Int32) : Int32 × List Int32 := if x2 ≠ (n - 3) + 2 then (1, [x0, x1, x2 + 1]) else if x1 ≠ (n - 3) + 1 then (1, [x0, x1 + 1, (x1 + 1) + 1]) else if x0 ≠ (n - 3) + 0 then (1, [x0 + 1, (x0 + 1) + 1, ((x0 + 1) + 1) + 1]) else (0, [x0, x1, x2])
def own_vd1 (n x0 : Int32) : Int32 := if 0 ≤ x0.toInt then (if n.toInt ≤ x0.toInt then 0 else 1) else 0
def own_vd2 (n x0 x1 : Int32) : Int32 := if 0 ≤ x0.toInt then (if x0.toInt < x1.toInt then (if n.toInt ≤ x1.toInt then 0 else 1) else 0) else 0
def own_vd3 (n x0 x1 x2 : Int32) : Int32 := if 0 ≤ x0.toInt then (if x0.toInt < x1.toInt then (if x1.toInt < x2.toInt then (if n.toInt ≤ x2.toInt then 0 else 1) else 0) else 0) else 0
def own_rkL (n : Int32) : List Int32 → Int64
  | [x0] => own_rk1 n x0
  | [x0, x1] => own_rk2 n x0 x1
  | [x0, x1, x2] => own_rk3 n x0 x1 x2
  | _ => 0
def own_vdL (n : Int32) : List Int32 → Int32
  | [x0] => own_vd1 n x0
  | [x0, x1] => own_vd2 n x0 x1
  | [x0, x1, x2] => own_vd3 n x0 x1 x2
  | _ => 0
set_option maxRecDepth 65536 in
set_option maxHeartbeats 40000000 in
theorem ct_bin0 (l : Launch) (Z : State) (h0 : Heap) (a0 : Array Value) (hw : ∀ d ∈ tables_1, d.before a0 Z = true) (ds : Hp) (x : Int64) :
    Ct l Z h0 (⟨"com/example/xpath_reasoner/xpathreasoner/reason/InterleavingsNextChoicePinLaw", "binom", "(JI)J"⟩ : MethodName) method_3_code 3 (some .long) [] ({ frames := 0, cells := 0, slots := 0, locals := 0 } : Room) #[(.long x), (.int 0)] ds (fun v ds' => v = some (.long (own_c0 x)) ∧ ds' = ds) := by
  refine Ct.of_go (Ls := #[.val (.long x), .second, .val (.int 0)]) pf_1 (fun m => by first | (simp [entryFrame, mkF, argsToLocals, Value.category, maxLocals]; done) | rfl) (fun W K => ?_)
  generalize hQ : (fun v ds' => v = some (.long (own_c0 x)) ∧ ds' = ds : Option Value → Hp → Prop) = Q
  refine go_iloadN (pc' := 1) K d1_0 rfl rfl ?_
  refine go_if_ne_f (pc' := 4) K d1_1 (by decide) rfl ?_
  refine go_lconst (pc' := 5) (v := 1) K d1_4 rfl rfl ?_
  exact go_lret K d1_5 (by decide) (by decide) (by subst hQ; exact ⟨rfl, rfl⟩)
set_option maxRecDepth 65536 in
set_option maxHeartbeats 40000000 in
theorem ct_bin1 (l : Launch) (Z : State) (h0 : Heap) (a0 : Array Value) (hw : ∀ d ∈ tables_1, d.before a0 Z = true) (ds : Hp) (x : Int64) :
    Ct l Z h0 (⟨"com/example/xpath_reasoner/xpathreasoner/reason/InterleavingsNextChoicePinLaw", "binom", "(JI)J"⟩ : MethodName) method_3_code 3 (some .long) [] ({ frames := 0, cells := 0, slots := 0, locals := 0 } : Room) #[(.long x), (.int 1)] ds (fun v ds' => v = some (.long (own_c1 x)) ∧ ds' = ds) := by
  refine Ct.of_go (Ls := #[.val (.long x), .second, .val (.int 1)]) pf_1 (fun m => by first | (simp [entryFrame, mkF, argsToLocals, Value.category, maxLocals]; done) | rfl) (fun W K => ?_)
  generalize hQ : (fun v ds' => v = some (.long (own_c1 x)) ∧ ds' = ds : Option Value → Hp → Prop) = Q
  refine go_iloadN (pc' := 1) K d1_0 rfl rfl ?_
  refine go_if_ne_t (pc' := 6) K d1_1 (by decide) (by decide) (by decide) ?_
  refine go_iloadN (pc' := 7) K d1_6 rfl rfl ?_
  refine go_iconst (pc' := 8) (v := 1) K d1_7 rfl rfl ?_
  refine go_ic_ne_f (pc' := 11) K d1_8 (by decide) rfl ?_
  refine go_lloadN (pc' := 12) K d1_11 rfl rfl ?_
  exact go_lret K d1_12 (by decide) (by decide) (by subst hQ; exact ⟨rfl, rfl⟩)
set_option maxRecDepth 65536 in
set_option maxHeartbeats 40000000 in
theorem ct_bin2 (l : Launch) (Z : State) (h0 : Heap) (a0 : Array Value) (hw : ∀ d ∈ tables_1, d.before a0 Z = true) (ds : Hp) (x : Int64) :
    Ct l Z h0 (⟨"com/example/xpath_reasoner/xpathreasoner/reason/InterleavingsNextChoicePinLaw", "binom", "(JI)J"⟩ : MethodName) method_3_code 3 (some .long) [] ({ frames := 0, cells := 0, slots := 0, locals := 0 } : Room) #[(.long x), (.int 2)] ds (fun v ds' => v = some (.long (own_c2 x)) ∧ ds' = ds) := by
  refine Ct.of_go (Ls := #[.val (.long x), .second, .val (.int 2)]) pf_1 (fun m => by first | (simp [entryFrame, mkF, argsToLocals, Value.category, maxLocals]; done) | rfl) (fun W K => ?_)
  generalize hQ : (fun v ds' => v = some (.long (own_c2 x)) ∧ ds' = ds : Option Value → Hp → Prop) = Q
  refine go_iloadN (pc' := 1) K d1_0 rfl rfl ?_
  refine go_if_ne_t (pc' := 6) K d1_1 (by decide) (by decide) (by decide) ?_
  refine go_iloadN (pc' := 7) K d1_6 rfl rfl ?_
  refine go_iconst (pc' := 8) (v := 1) K d1_7 rfl rfl ?_
  refine go_ic_ne_t (pc' := 13) K d1_8 (by decide) (by decide) (by decide) ?_
  refine go_iloadN (pc' := 14) K d1_13 rfl rfl ?_
  refine go_iconst (pc' := 15) (v := 2) K d1_14 rfl rfl ?_
  refine go_ic_ne_f (pc' := 18) K d1_15 (by decide) rfl ?_
  refine go_lloadN (pc' := 19) K d1_18 rfl rfl ?_
  refine go_lloadN (pc' := 20) K d1_19 rfl rfl ?_
  refine go_lconst (pc' := 21) (v := 1) K d1_20 rfl rfl ?_
  refine go_lsub (pc' := 22) K d1_21 rfl ?_
  refine go_lmul (pc' := 23) K d1_22 rfl ?_
  refine go_ldc2 (pc' := 26) (v := 2) K d1_23 (hw _ (List.mem_of_getElem? (i := 12) rfl)) rfl ?_
  refine go_ldiv (pc' := 27) K d1_26 (by decide) rfl ?_
  exact go_lret K d1_27 (by decide) (by decide) (by subst hQ; exact ⟨rfl, rfl⟩)
set_option maxRecDepth 65536 in
set_option maxHeartbeats 40000000 in
theorem ct_bin3 (l : Launch) (Z : State) (h0 : Heap) (a0 : Array Value) (hw : ∀ d ∈ tables_1, d.before a0 Z = true) (ds : Hp) (x : Int64) :
    Ct l Z h0 (⟨"com/example/xpath_reasoner/xpathreasoner/reason/InterleavingsNextChoicePinLaw", "binom", "(JI)J"⟩ : MethodName) method_3_code 3 (some .long) [] ({ frames := 0, cells := 0, slots := 0, locals := 0 } : Room) #[(.long x), (.int 3)] ds (fun v ds' => v = some (.long (own_c3 x)) ∧ ds' = ds) := by
  refine Ct.of_go (Ls := #[.val (.long x), .second, .val (.int 3)]) pf_1 (fun m => by first | (simp [entryFrame, mkF, argsToLocals, Value.category, maxLocals]; done) | rfl) (fun W K => ?_)
  generalize hQ : (fun v ds' => v = some (.long (own_c3 x)) ∧ ds' = ds : Option Value → Hp → Prop) = Q
  refine go_iloadN (pc' := 1) K d1_0 rfl rfl ?_
  refine go_if_ne_t (pc' := 6) K d1_1 (by decide) (by decide) (by decide) ?_
  refine go_iloadN (pc' := 7) K d1_6 rfl rfl ?_
  refine go_iconst (pc' := 8) (v := 1) K d1_7 rfl rfl ?_
  refine go_ic_ne_t (pc' := 13) K d1_8 (by decide) (by decide) (by decide) ?_
  refine go_iloadN (pc' := 14) K d1_13 rfl rfl ?_
  refine go_iconst (pc' := 15) (v := 2) K d1_14 rfl rfl ?_
  refine go_ic_ne_t (pc' := 28) K d1_15 (by decide) (by decide) (by decide) ?_
  refine go_lloadN (pc' := 29) K d1_28 rfl rfl ?_
  refine go_lloadN (pc' := 30) K d1_29 rfl rfl ?_
  refine go_lconst (pc' := 31) (v := 1) K d1_30 rfl rfl ?_
  refine go_lsub (pc' := 32) K d1_31 rfl ?_
  refine go_lmul (pc' := 33) K d1_32 rfl ?_
  refine go_lloadN (pc' := 34) K d1_33 rfl rfl ?_
  refine go_ldc2 (pc' := 37) (v := 2) K d1_34 (hw _ (List.mem_of_getElem? (i := 12) rfl)) rfl ?_
  refine go_lsub (pc' := 38) K d1_37 rfl ?_
  refine go_lmul (pc' := 39) K d1_38 rfl ?_
  refine go_ldc2 (pc' := 42) (v := 6) K d1_39 (hw _ (List.mem_of_getElem? (i := 13) rfl)) rfl ?_
  refine go_ldiv (pc' := 43) K d1_42 (by decide) rfl ?_
  exact go_lret K d1_43 (by decide) (by decide) (by subst hQ; exact ⟨rfl, rfl⟩)
set_option maxRecDepth 65536 in
set_option maxHeartbeats 40000000 in
theorem ct_rank0 (l : Launch) (Z : State) (h0 : Heap) (a0 : Array Value) (hw : ∀ d ∈ tables_1, d.before a0 Z = true) (ds : Hp) (i b : Nat) (n : Int32) (ha : ds[i]? = some (b, ia [])) :
    Ct l Z h0 (⟨"com/example/xpath_reasoner/xpathreasoner/reason/InterleavingsNextChoicePinLaw", "rank", "([III)J"⟩ : MethodName) method_4_code 5 (some .long) [] ({ frames := 1, cells := 0, slots := 0, locals := 20 } : Room) #[(.ref b), (.int 0), (.int n)] ds (fun v ds' => v = some (.long (own_rk0 n)) ∧ ds' = ds) := by
  refine Ct.of_go (Ls := #[.val (.ref b), .val (.int 0), .val (.int n), .unset, .unset]) pf_2 (fun m => by first | (simp [entryFrame, mkF, argsToLocals, Value.category, maxLocals]; done) | rfl) (fun W K => ?_)
  generalize hQ : (fun v ds' => v = some (.long (own_rk0 n)) ∧ ds' = ds : Option Value → Hp → Prop) = Q
  refine go_lconst (pc' := 1) (v := 0) K d2_0 rfl rfl ?_
  refine go_lstoreN (pc' := 2) (Ls' := #[.val (.ref b), .val (.int 0), .val (.int n), .val (.long 0), .second]) K d2_1 rfl rfl ?_
  refine go_iloadN (pc' := 3) K d2_2 rfl rfl ?_
  refine go_if_le_t (pc' := 23) K d2_3 (by decide) (by decide) (by decide) ?_
  refine go_iloadN (pc' := 24) K d2_23 rfl rfl ?_
  refine go_iconst (pc' := 25) (v := 1) K d2_24 rfl rfl ?_
  refine go_ic_le_t (pc' := 45) K d2_25 (by decide) (by decide) (by decide) ?_
  refine go_iloadN (pc' := 46) K d2_45 rfl rfl ?_
  refine go_iconst (pc' := 47) (v := 2) K d2_46 rfl rfl ?_
  refine go_ic_le_t (pc' := 67) K d2_47 (by decide) (by decide) (by decide) ?_
  refine go_iloadN (pc' := 68) K d2_67 rfl rfl ?_
  refine go_i2l (pc' := 69) K d2_68 rfl ?_
  refine go_iloadN (pc' := 70) K d2_69 rfl rfl ?_
  refine go_static (pc' := 73) (Wd := 0) (y' := ⟨"com/example/xpath_reasoner/xpathreasoner/reason/InterleavingsNextChoicePinLaw", "binom", "(JI)J"⟩) (argsL := [(.long n.toInt64), (.int 0)]) (rest := []) K (hw _ (List.mem_of_getElem? (i := 1) rfl)) (hw _ (List.mem_of_getElem? (i := 2) rfl)) (hw _ (List.mem_of_getElem? (i := 3) rfl)) (hw _ (List.mem_of_getElem? (i := 4) rfl)) d2_70 (ct_bin0 l Z h0 a0 hw _ n.toInt64) (lenOf pd__JI_J rfl) rfl rfl (by decide) rfl (by decide) (by decide) (by decide) (by decide) rfl ?_
  rintro _ ds' ⟨rfl, hds⟩
  rw [hds]
  show Go W Q ds 0 0 73 #[.val (.ref b), .val (.int 0), .val (.int n), .val (.long 0), .second] [(.long (own_c0 n.toInt64))]
  refine go_lconst (pc' := 74) (v := 1) K d2_73 rfl rfl ?_
  refine go_lsub (pc' := 75) K d2_74 rfl ?_
  refine go_lloadN (pc' := 76) K d2_75 rfl rfl ?_
  refine go_lsub (pc' := 77) K d2_76 rfl ?_
  exact go_lret K d2_77 (by decide) (by decide) (by subst hQ; exact ⟨rfl, rfl⟩)
set_option maxRecDepth 65536 in
set_option maxHeartbeats 40000000 in
theorem ct_next0 (l : Launch) (Z : State) (h0 : Heap) (a0 : Array Value) (hw : ∀ d ∈ tables_1, d.before a0 Z = true) (b : Nat) (n : Int32) :
    Ct l Z h0 (⟨"com/example/xpath_reasoner/xpathreasoner/reason/Interleavings", "nextChoice", "([II)Z"⟩ : MethodName) prog_135_method_12_code 4 (some .boolean) [] ({ frames := 0, cells := 0, slots := 0, locals := 0 } : Room) #[(.ref b), (.int n)] [(b, ia [])] (fun v ds' => v = some (.int (own_nx0 n).1) ∧ ds' = [(b, ia (own_nx0 n).2)]) := by
  refine Ct.of_go (Ls := #[.val (.ref b), .val (.int n), .unset, .unset]) pf_3 (fun m => by first | (simp [entryFrame, mkF, argsToLocals, Value.category, maxLocals]; done) | rfl) (fun W K => ?_)
  generalize hQ : (fun v ds' => v = some (.int (own_nx0 n).1) ∧ ds' = [(b, ia (own_nx0 n).2)] : Option Value → Hp → Prop) = Q
  refine go_aloadN (pc' := 1) K d3_0 rfl rfl rfl ?_
  refine go_alen (pc' := 2) (i := 0) (z := 0) K rfl d3_1 rfl rfl ?_
  refine go_iconst (pc' := 3) (v := 1) K d3_2 rfl rfl ?_
  refine go_isub (pc' := 4) K d3_3 rfl ?_
  rw [show ((0 - 1) : Int32) = (-1) from by decide]
  refine go_istoreN (pc' := 5) (Ls' := #[.val (.ref b), .val (.int n), .val (.int (-1)), .unset]) K d3_4 rfl rfl ?_
  refine go_iloadN (pc' := 6) K d3_5 rfl rfl ?_
  refine go_if_lt_t (pc' := 27) K d3_6 (by decide) (by decide) (by decide) ?_
  refine go_iloadN (pc' := 28) K d3_27 rfl rfl ?_
  refine go_if_ge_f (pc' := 31) K d3_28 (by decide) rfl ?_
  refine go_iconst (pc' := 32) (v := 0) K d3_31 rfl rfl ?_
  exact go_zret K d3_32 (by decide) (by decide) (Or.inl rfl) (by subst hQ; exact ⟨rfl, rfl⟩)
set_option maxRecDepth 65536 in
set_option maxHeartbeats 40000000 in
theorem ct_rank1 (l : Launch) (Z : State) (h0 : Heap) (a0 : Array Value) (hw : ∀ d ∈ tables_1, d.before a0 Z = true) (ds : Hp) (i b : Nat) (n x0 : Int32) (ha : ds[i]? = some (b, ia [x0])) :
    Ct l Z h0 (⟨"com/example/xpath_reasoner/xpathreasoner/reason/InterleavingsNextChoicePinLaw", "rank", "([III)J"⟩ : MethodName) method_4_code 5 (some .long) [] ({ frames := 1, cells := 0, slots := 0, locals := 20 } : Room) #[(.ref b), (.int 1), (.int n)] ds (fun v ds' => v = some (.long (own_rk1 n x0)) ∧ ds' = ds) := by
  refine Ct.of_go (Ls := #[.val (.ref b), .val (.int 1), .val (.int n), .unset, .unset]) pf_2 (fun m => by first | (simp [entryFrame, mkF, argsToLocals, Value.category, maxLocals]; done) | rfl) (fun W K => ?_)
  generalize hQ : (fun v ds' => v = some (.long (own_rk1 n x0)) ∧ ds' = ds : Option Value → Hp → Prop) = Q
  refine go_lconst (pc' := 1) (v := 0) K d2_0 rfl rfl ?_
  refine go_lstoreN (pc' := 2) (Ls' := #[.val (.ref b), .val (.int 1), .val (.int n), .val (.long 0), .second]) K d2_1 rfl rfl ?_
  refine go_iloadN (pc' := 3) K d2_2 rfl rfl ?_
  refine go_if_le_f (pc' := 6) K d2_3 (by decide) rfl ?_
  refine go_lloadN (pc' := 7) K d2_6 rfl rfl ?_
  refine go_iloadN (pc' := 8) K d2_7 rfl rfl ?_
  refine go_iconst (pc' := 9) (v := 1) K d2_8 rfl rfl ?_
  refine go_isub (pc' := 10) K d2_9 rfl ?_
  refine go_aloadN (pc' := 11) K d2_10 rfl rfl rfl ?_
  refine go_iloadN (pc' := 12) K d2_11 rfl rfl ?_
  refine go_iconst (pc' := 13) (v := 1) K d2_12 rfl rfl ?_
  refine go_isub (pc' := 14) K d2_13 rfl ?_
  rw [show ((1 - 1) : Int32) = 0 from by decide]
  refine go_iaload (pc' := 15) (i := i) (m := 0) (x := x0) K ha d2_14 (by decide) rfl rfl ?_
  refine go_isub (pc' := 16) K d2_15 rfl ?_
  refine go_i2l (pc' := 17) K d2_16 rfl ?_
  refine go_iconst (pc' := 18) (v := 1) K d2_17 rfl rfl ?_
  refine go_static (pc' := 21) (Wd := 2) (y' := ⟨"com/example/xpath_reasoner/xpathreasoner/reason/InterleavingsNextChoicePinLaw", "binom", "(JI)J"⟩) (argsL := [(.long (((n - 1) - x0).toInt64)), (.int 1)]) (rest := [(.long 0)]) K (hw _ (List.mem_of_getElem? (i := 1) rfl)) (hw _ (List.mem_of_getElem? (i := 2) rfl)) (hw _ (List.mem_of_getElem? (i := 3) rfl)) (hw _ (List.mem_of_getElem? (i := 4) rfl)) d2_18 (ct_bin1 l Z h0 a0 hw _ (((n - 1) - x0).toInt64)) (lenOf pd__JI_J rfl) rfl rfl (by decide) rfl (by decide) (by decide) (by decide) (by decide) rfl ?_
  rintro _ ds' ⟨rfl, hds⟩
  rw [hds]
  show Go W Q ds 0 0 21 #[.val (.ref b), .val (.int 1), .val (.int n), .val (.long 0), .second] [(.long (own_c1 (((n - 1) - x0).toInt64))), (.long 0)]
  refine go_ladd (pc' := 22) K d2_21 rfl ?_
  refine go_lstoreN (pc' := 23) (Ls' := #[.val (.ref b), .val (.int 1), .val (.int n), .val (.long (0 + (own_c1 (((n - 1) - x0).toInt64)))), .second]) K d2_22 rfl rfl ?_
  refine go_iloadN (pc' := 24) K d2_23 rfl rfl ?_
  refine go_iconst (pc' := 25) (v := 1) K d2_24 rfl rfl ?_
  refine go_ic_le_t (pc' := 45) K d2_25 (by decide) (by decide) (by decide) ?_
  refine go_iloadN (pc' := 46) K d2_45 rfl rfl ?_
  refine go_iconst (pc' := 47) (v := 2) K d2_46 rfl rfl ?_
  refine go_ic_le_t (pc' := 67) K d2_47 (by decide) (by decide) (by decide) ?_
  refine go_iloadN (pc' := 68) K d2_67 rfl rfl ?_
  refine go_i2l (pc' := 69) K d2_68 rfl ?_
  refine go_iloadN (pc' := 70) K d2_69 rfl rfl ?_
  refine go_static (pc' := 73) (Wd := 0) (y' := ⟨"com/example/xpath_reasoner/xpathreasoner/reason/InterleavingsNextChoicePinLaw", "binom", "(JI)J"⟩) (argsL := [(.long n.toInt64), (.int 1)]) (rest := []) K (hw _ (List.mem_of_getElem? (i := 1) rfl)) (hw _ (List.mem_of_getElem? (i := 2) rfl)) (hw _ (List.mem_of_getElem? (i := 3) rfl)) (hw _ (List.mem_of_getElem? (i := 4) rfl)) d2_70 (ct_bin1 l Z h0 a0 hw _ n.toInt64) (lenOf pd__JI_J rfl) rfl rfl (by decide) rfl (by decide) (by decide) (by decide) (by decide) rfl ?_
  rintro _ ds' ⟨rfl, hds⟩
  rw [hds]
  show Go W Q ds 0 0 73 #[.val (.ref b), .val (.int 1), .val (.int n), .val (.long (0 + (own_c1 (((n - 1) - x0).toInt64)))), .second] [(.long (own_c1 n.toInt64))]
  refine go_lconst (pc' := 74) (v := 1) K d2_73 rfl rfl ?_
  refine go_lsub (pc' := 75) K d2_74 rfl ?_
  refine go_lloadN (pc' := 76) K d2_75 rfl rfl ?_
  refine go_lsub (pc' := 77) K d2_76 rfl ?_
  exact go_lret K d2_77 (by decide) (by decide) (by subst hQ; exact ⟨rfl, rfl⟩)
set_option maxRecDepth 65536 in
set_option maxHeartbeats 40000000 in
theorem ct_next1 (l : Launch) (Z : State) (h0 : Heap) (a0 : Array Value) (hw : ∀ d ∈ tables_1, d.before a0 Z = true) (b : Nat) (n x0 : Int32) :
    Ct l Z h0 (⟨"com/example/xpath_reasoner/xpathreasoner/reason/Interleavings", "nextChoice", "([II)Z"⟩ : MethodName) prog_135_method_12_code 4 (some .boolean) [] ({ frames := 0, cells := 0, slots := 0, locals := 0 } : Room) #[(.ref b), (.int n)] [(b, ia [x0])] (fun v ds' => v = some (.int (own_nx1 n x0).1) ∧ ds' = [(b, ia (own_nx1 n x0).2)]) := by
  refine Ct.of_go (Ls := #[.val (.ref b), .val (.int n), .unset, .unset]) pf_3 (fun m => by first | (simp [entryFrame, mkF, argsToLocals, Value.category, maxLocals]; done) | rfl) (fun W K => ?_)
  generalize hQ : (fun v ds' => v = some (.int (own_nx1 n x0).1) ∧ ds' = [(b, ia (own_nx1 n x0).2)] : Option Value → Hp → Prop) = Q
  refine go_aloadN (pc' := 1) K d3_0 rfl rfl rfl ?_
  refine go_alen (pc' := 2) (i := 0) (z := 1) K rfl d3_1 rfl rfl ?_
  refine go_iconst (pc' := 3) (v := 1) K d3_2 rfl rfl ?_
  refine go_isub (pc' := 4) K d3_3 rfl ?_
  rw [show ((1 - 1) : Int32) = 0 from by decide]
  refine go_istoreN (pc' := 5) (Ls' := #[.val (.ref b), .val (.int n), .val (.int 0), .unset]) K d3_4 rfl rfl ?_
  refine go_iloadN (pc' := 6) K d3_5 rfl rfl ?_
  refine go_if_lt_f (pc' := 9) K d3_6 (by decide) rfl ?_
  refine go_aloadN (pc' := 10) K d3_9 rfl rfl rfl ?_
  refine go_iloadN (pc' := 11) K d3_10 rfl rfl ?_
  refine go_iaload (pc' := 12) (i := 0) (m := 0) (x := x0) K rfl d3_11 (by decide) rfl rfl ?_
  refine go_iloadN (pc' := 13) K d3_12 rfl rfl ?_
  refine go_aloadN (pc' := 14) K d3_13 rfl rfl rfl ?_
  refine go_alen (pc' := 15) (i := 0) (z := 1) K rfl d3_14 rfl rfl ?_
  refine go_isub (pc' := 16) K d3_15 rfl ?_
  refine go_iloadN (pc' := 17) K d3_16 rfl rfl ?_
  refine go_iadd (pc' := 18) K d3_17 rfl ?_
  refine go_ic_ne (pt := 27) (pc' := 21) K d3_18 (by decide) (by decide) rfl (fun (hm0 : x0 ≠ ((n - 1) + 0)) => ?_) (fun (hm0 : x0 = ((n - 1) + 0)) => ?_)
  ·
    refine go_iloadN (pc' := 28) K d3_27 rfl rfl ?_
    refine go_if_ge_t (pc' := 33) K d3_28 (by decide) (by decide) (by decide) ?_
    refine go_aloadN (pc' := 34) K d3_33 rfl rfl rfl ?_
    refine go_iloadN (pc' := 35) K d3_34 rfl rfl ?_
    refine go_dup2 (pc' := 36) K d3_35 rfl rfl rfl ?_
    refine go_iaload (pc' := 37) (i := 0) (m := 0) (x := x0) K rfl d3_36 (by decide) rfl rfl ?_
    refine go_iconst (pc' := 38) (v := 1) K d3_37 rfl rfl ?_
    refine go_iadd (pc' := 39) K d3_38 rfl ?_
    refine go_iastore (pc' := 40) (i := 0) (m := 0) (ds' := [(b, ia [(x0 + 1)])]) K rfl d3_39 (by decide) (by simp) rfl rfl ?_
    refine go_iloadN (pc' := 41) K d3_40 rfl rfl ?_
    refine go_iconst (pc' := 42) (v := 1) K d3_41 rfl rfl ?_
    refine go_iadd (pc' := 43) K d3_42 rfl ?_
    rw [show ((0 + 1) : Int32) = 1 from by decide]
    refine go_istoreN (pc' := 44) (Ls' := #[.val (.ref b), .val (.int n), .val (.int 0), .val (.int 1)]) K d3_43 rfl rfl ?_
    refine go_iloadN (pc' := 45) K d3_44 rfl rfl ?_
    refine go_aloadN (pc' := 46) K d3_45 rfl rfl rfl ?_
    refine go_alen (pc' := 47) (i := 0) (z := 1) K rfl d3_46 rfl rfl ?_
    refine go_ic_ge_t (pc' := 66) K d3_47 (by decide) (by decide) (by decide) ?_
    refine go_iconst (pc' := 67) (v := 1) K d3_66 rfl rfl ?_
    exact go_zret K d3_67 (by decide) (by decide) (Or.inr rfl) (by subst hQ; unfold own_nx1; rw [if_pos hm0]; exact ⟨rfl, rfl⟩)
  ·
    refine go_iinc (pc' := 24) (v := (-1)) (Ls' := #[.val (.ref b), .val (.int n), .val (.int (-1)), .unset]) K d3_21 rfl rfl rfl rfl ?_
    refine go_goto (pc' := 5) K d3_24 (by decide) (by decide) ?_
    refine go_iloadN (pc' := 6) K d3_5 rfl rfl ?_
    refine go_if_lt_t (pc' := 27) K d3_6 (by decide) (by decide) (by decide) ?_
    refine go_iloadN (pc' := 28) K d3_27 rfl rfl ?_
    refine go_if_ge_f (pc' := 31) K d3_28 (by decide) rfl ?_
    refine go_iconst (pc' := 32) (v := 0) K d3_31 rfl rfl ?_
    exact go_zret K d3_32 (by decide) (by decide) (Or.inl rfl) (by subst hQ; unfold own_nx1; rw [if_neg (Decidable.not_not.mpr hm0)]; exact ⟨rfl, rfl⟩)
set_option maxRecDepth 65536 in
set_option maxHeartbeats 40000000 in
theorem ct_valid1 (l : Launch) (Z : State) (h0 : Heap) (a0 : Array Value) (hw : ∀ d ∈ tables_1, d.before a0 Z = true) (ds : Hp) (i b : Nat) (n x0 : Int32) (ha : ds[i]? = some (b, ia [x0])) :
    Ct l Z h0 (⟨"com/example/xpath_reasoner/xpathreasoner/reason/InterleavingsNextChoicePinLaw", "valid", "([III)Z"⟩ : MethodName) method_5_code 3 (some .boolean) [] ({ frames := 0, cells := 0, slots := 0, locals := 0 } : Room) #[(.ref b), (.int 1), (.int n)] ds (fun v ds' => v = some (.int (own_vd1 n x0)) ∧ ds' = ds) := by
  refine Ct.of_go (Ls := #[.val (.ref b), .val (.int 1), .val (.int n)]) pf_4 (fun m => by first | (simp [entryFrame, mkF, argsToLocals, Value.category, maxLocals]; done) | rfl) (fun W K => ?_)
  generalize hQ : (fun v ds' => v = some (.int (own_vd1 n x0)) ∧ ds' = ds : Option Value → Hp → Prop) = Q
  refine go_iloadN (pc' := 1) K d4_0 rfl rfl ?_
  refine go_if_ne_t (pc' := 6) K d4_1 (by decide) (by decide) (by decide) ?_
  refine go_aloadN (pc' := 7) K d4_6 rfl rfl rfl ?_
  refine go_iconst (pc' := 8) (v := 0) K d4_7 rfl rfl ?_
  refine go_iaload (pc' := 9) (i := i) (m := 0) (x := x0) K ha d4_8 (by decide) rfl rfl ?_
  refine go_if_ge (pt := 14) (pc' := 12) K d4_9 (by decide) (by decide) rfl (fun (h0 : 0 ≤ x0.toInt) => ?_) (fun (h0 : x0.toInt < 0) => ?_)
  ·
    refine go_iloadN (pc' := 15) K d4_14 rfl rfl ?_
    refine go_iconst (pc' := 16) (v := 1) K d4_15 rfl rfl ?_
    refine go_ic_le_t (pc' := 30) K d4_16 (by decide) (by decide) (by decide) ?_
    refine go_iloadN (pc' := 31) K d4_30 rfl rfl ?_
    refine go_iconst (pc' := 32) (v := 2) K d4_31 rfl rfl ?_
    refine go_ic_le_t (pc' := 46) K d4_32 (by decide) (by decide) (by decide) ?_
    refine go_aloadN (pc' := 47) K d4_46 rfl rfl rfl ?_
    refine go_iloadN (pc' := 48) K d4_47 rfl rfl ?_
    refine go_iconst (pc' := 49) (v := 1) K d4_48 rfl rfl ?_
    refine go_isub (pc' := 50) K d4_49 rfl ?_
    rw [show ((1 - 1) : Int32) = 0 from by decide]
    refine go_iaload (pc' := 51) (i := i) (m := 0) (x := x0) K ha d4_50 (by decide) rfl rfl ?_
    refine go_iloadN (pc' := 52) K d4_51 rfl rfl ?_
    refine go_ic_ge (pt := 59) (pc' := 55) K d4_52 (by decide) (by decide) rfl (fun (h3 : n.toInt ≤ x0.toInt) => ?_) (fun (h3 : x0.toInt < n.toInt) => ?_)
    ·
      refine go_iconst (pc' := 60) (v := 0) K d4_59 rfl rfl ?_
      exact go_zret K d4_60 (by decide) (by decide) (Or.inl rfl) (by subst hQ; refine ⟨?_, rfl⟩; unfold own_vd1; rw [if_pos h0, if_pos h3])
    ·
      refine go_iconst (pc' := 56) (v := 1) K d4_55 rfl rfl ?_
      refine go_goto (pc' := 60) K d4_56 (by decide) (by decide) ?_
      exact go_zret K d4_60 (by decide) (by decide) (Or.inr rfl) (by subst hQ; refine ⟨?_, rfl⟩; unfold own_vd1; rw [if_pos h0, if_neg (by omega)])
  ·
    refine go_iconst (pc' := 13) (v := 0) K d4_12 rfl rfl ?_
    exact go_zret K d4_13 (by decide) (by decide) (Or.inl rfl) (by subst hQ; refine ⟨?_, rfl⟩; unfold own_vd1; rw [if_neg (by omega)])
set_option maxRecDepth 65536 in
set_option maxHeartbeats 40000000 in
theorem ct_rank2 (l : Launch) (Z : State) (h0 : Heap) (a0 : Array Value) (hw : ∀ d ∈ tables_1, d.before a0 Z = true) (ds : Hp) (i b : Nat) (n x0 x1 : Int32) (ha : ds[i]? = some (b, ia [x0, x1])) :
    Ct l Z h0 (⟨"com/example/xpath_reasoner/xpathreasoner/reason/InterleavingsNextChoicePinLaw", "rank", "([III)J"⟩ : MethodName) method_4_code 5 (some .long) [] ({ frames := 1, cells := 0, slots := 0, locals := 20 } : Room) #[(.ref b), (.int 2), (.int n)] ds (fun v ds' => v = some (.long (own_rk2 n x0 x1)) ∧ ds' = ds) := by
  refine Ct.of_go (Ls := #[.val (.ref b), .val (.int 2), .val (.int n), .unset, .unset]) pf_2 (fun m => by first | (simp [entryFrame, mkF, argsToLocals, Value.category, maxLocals]; done) | rfl) (fun W K => ?_)
  generalize hQ : (fun v ds' => v = some (.long (own_rk2 n x0 x1)) ∧ ds' = ds : Option Value → Hp → Prop) = Q
  refine go_lconst (pc' := 1) (v := 0) K d2_0 rfl rfl ?_
  refine go_lstoreN (pc' := 2) (Ls' := #[.val (.ref b), .val (.int 2), .val (.int n), .val (.long 0), .second]) K d2_1 rfl rfl ?_
  refine go_iloadN (pc' := 3) K d2_2 rfl rfl ?_
  refine go_if_le_f (pc' := 6) K d2_3 (by decide) rfl ?_
  refine go_lloadN (pc' := 7) K d2_6 rfl rfl ?_
  refine go_iloadN (pc' := 8) K d2_7 rfl rfl ?_
  refine go_iconst (pc' := 9) (v := 1) K d2_8 rfl rfl ?_
  refine go_isub (pc' := 10) K d2_9 rfl ?_
  refine go_aloadN (pc' := 11) K d2_10 rfl rfl rfl ?_
  refine go_iloadN (pc' := 12) K d2_11 rfl rfl ?_
  refine go_iconst (pc' := 13) (v := 1) K d2_12 rfl rfl ?_
  refine go_isub (pc' := 14) K d2_13 rfl ?_
  rw [show ((2 - 1) : Int32) = 1 from by decide]
  refine go_iaload (pc' := 15) (i := i) (m := 1) (x := x1) K ha d2_14 (by decide) rfl rfl ?_
  refine go_isub (pc' := 16) K d2_15 rfl ?_
  refine go_i2l (pc' := 17) K d2_16 rfl ?_
  refine go_iconst (pc' := 18) (v := 1) K d2_17 rfl rfl ?_
  refine go_static (pc' := 21) (Wd := 2) (y' := ⟨"com/example/xpath_reasoner/xpathreasoner/reason/InterleavingsNextChoicePinLaw", "binom", "(JI)J"⟩) (argsL := [(.long (((n - 1) - x1).toInt64)), (.int 1)]) (rest := [(.long 0)]) K (hw _ (List.mem_of_getElem? (i := 1) rfl)) (hw _ (List.mem_of_getElem? (i := 2) rfl)) (hw _ (List.mem_of_getElem? (i := 3) rfl)) (hw _ (List.mem_of_getElem? (i := 4) rfl)) d2_18 (ct_bin1 l Z h0 a0 hw _ (((n - 1) - x1).toInt64)) (lenOf pd__JI_J rfl) rfl rfl (by decide) rfl (by decide) (by decide) (by decide) (by decide) rfl ?_
  rintro _ ds' ⟨rfl, hds⟩
  rw [hds]
  show Go W Q ds 0 0 21 #[.val (.ref b), .val (.int 2), .val (.int n), .val (.long 0), .second] [(.long (own_c1 (((n - 1) - x1).toInt64))), (.long 0)]
  refine go_ladd (pc' := 22) K d2_21 rfl ?_
  refine go_lstoreN (pc' := 23) (Ls' := #[.val (.ref b), .val (.int 2), .val (.int n), .val (.long (0 + (own_c1 (((n - 1) - x1).toInt64)))), .second]) K d2_22 rfl rfl ?_
  refine go_iloadN (pc' := 24) K d2_23 rfl rfl ?_
  refine go_iconst (pc' := 25) (v := 1) K d2_24 rfl rfl ?_
  refine go_ic_le_f (pc' := 28) K d2_25 (by decide) rfl ?_
  refine go_lloadN (pc' := 29) K d2_28 rfl rfl ?_
  refine go_iloadN (pc' := 30) K d2_29 rfl rfl ?_
  refine go_iconst (pc' := 31) (v := 1) K d2_30 rfl rfl ?_
  refine go_isub (pc' := 32) K d2_31 rfl ?_
  refine go_aloadN (pc' := 33) K d2_32 rfl rfl rfl ?_
  refine go_iloadN (pc' := 34) K d2_33 rfl rfl ?_
  refine go_iconst (pc' := 35) (v := 2) K d2_34 rfl rfl ?_
  refine go_isub (pc' := 36) K d2_35 rfl ?_
  rw [show ((2 - 2) : Int32) = 0 from by decide]
  refine go_iaload (pc' := 37) (i := i) (m := 0) (x := x0) K ha d2_36 (by decide) rfl rfl ?_
  refine go_isub (pc' := 38) K d2_37 rfl ?_
  refine go_i2l (pc' := 39) K d2_38 rfl ?_
  refine go_iconst (pc' := 40) (v := 2) K d2_39 rfl rfl ?_
  refine go_static (pc' := 43) (Wd := 2) (y' := ⟨"com/example/xpath_reasoner/xpathreasoner/reason/InterleavingsNextChoicePinLaw", "binom", "(JI)J"⟩) (argsL := [(.long (((n - 1) - x0).toInt64)), (.int 2)]) (rest := [(.long (0 + (own_c1 (((n - 1) - x1).toInt64))))]) K (hw _ (List.mem_of_getElem? (i := 1) rfl)) (hw _ (List.mem_of_getElem? (i := 2) rfl)) (hw _ (List.mem_of_getElem? (i := 3) rfl)) (hw _ (List.mem_of_getElem? (i := 4) rfl)) d2_40 (ct_bin2 l Z h0 a0 hw _ (((n - 1) - x0).toInt64)) (lenOf pd__JI_J rfl) rfl rfl (by decide) rfl (by decide) (by decide) (by decide) (by decide) rfl ?_
  rintro _ ds' ⟨rfl, hds⟩
  rw [hds]
  show Go W Q ds 0 0 43 #[.val (.ref b), .val (.int 2), .val (.int n), .val (.long (0 + (own_c1 (((n - 1) - x1).toInt64)))), .second] [(.long (own_c2 (((n - 1) - x0).toInt64))), (.long (0 + (own_c1 (((n - 1) - x1).toInt64))))]
  refine go_ladd (pc' := 44) K d2_43 rfl ?_
  refine go_lstoreN (pc' := 45) (Ls' := #[.val (.ref b), .val (.int 2), .val (.int n), .val (.long ((0 + (own_c1 (((n - 1) - x1).toInt64))) + (own_c2 (((n - 1) - x0).toInt64)))), .second]) K d2_44 rfl rfl ?_
  refine go_iloadN (pc' := 46) K d2_45 rfl rfl ?_
  refine go_iconst (pc' := 47) (v := 2) K d2_46 rfl rfl ?_
  refine go_ic_le_t (pc' := 67) K d2_47 (by decide) (by decide) (by decide) ?_
  refine go_iloadN (pc' := 68) K d2_67 rfl rfl ?_
  refine go_i2l (pc' := 69) K d2_68 rfl ?_
  refine go_iloadN (pc' := 70) K d2_69 rfl rfl ?_
  refine go_static (pc' := 73) (Wd := 0) (y' := ⟨"com/example/xpath_reasoner/xpathreasoner/reason/InterleavingsNextChoicePinLaw", "binom", "(JI)J"⟩) (argsL := [(.long n.toInt64), (.int 2)]) (rest := []) K (hw _ (List.mem_of_getElem? (i := 1) rfl)) (hw _ (List.mem_of_getElem? (i := 2) rfl)) (hw _ (List.mem_of_getElem? (i := 3) rfl)) (hw _ (List.mem_of_getElem? (i := 4) rfl)) d2_70 (ct_bin2 l Z h0 a0 hw _ n.toInt64) (lenOf pd__JI_J rfl) rfl rfl (by decide) rfl (by decide) (by decide) (by decide) (by decide) rfl ?_
  rintro _ ds' ⟨rfl, hds⟩
  rw [hds]
  show Go W Q ds 0 0 73 #[.val (.ref b), .val (.int 2), .val (.int n), .val (.long ((0 + (own_c1 (((n - 1) - x1).toInt64))) + (own_c2 (((n - 1) - x0).toInt64)))), .second] [(.long (own_c2 n.toInt64))]
  refine go_lconst (pc' := 74) (v := 1) K d2_73 rfl rfl ?_
  refine go_lsub (pc' := 75) K d2_74 rfl ?_
  refine go_lloadN (pc' := 76) K d2_75 rfl rfl ?_
  refine go_lsub (pc' := 77) K d2_76 rfl ?_
  exact go_lret K d2_77 (by decide) (by decide) (by subst hQ; exact ⟨rfl, rfl⟩)
set_option maxRecDepth 65536 in
set_option maxHeartbeats 40000000 in
theorem ct_next2 (l : Launch) (Z : State) (h0 : Heap) (a0 : Array Value) (hw : ∀ d ∈ tables_1, d.before a0 Z = true) (b : Nat) (n x0 x1 : Int32) :
    Ct l Z h0 (⟨"com/example/xpath_reasoner/xpathreasoner/reason/Interleavings", "nextChoice", "([II)Z"⟩ : MethodName) prog_135_method_12_code 4 (some .boolean) [] ({ frames := 0, cells := 0, slots := 0, locals := 0 } : Room) #[(.ref b), (.int n)] [(b, ia [x0, x1])] (fun v ds' => v = some (.int (own_nx2 n x0 x1).1) ∧ ds' = [(b, ia (own_nx2 n x0 x1).2)]) := by
  refine Ct.of_go (Ls := #[.val (.ref b), .val (.int n), .unset, .unset]) pf_3 (fun m => by first | (simp [entryFrame, mkF, argsToLocals, Value.category, maxLocals]; done) | rfl) (fun W K => ?_)
  generalize hQ : (fun v ds' => v = some (.int (own_nx2 n x0 x1).1) ∧ ds' = [(b, ia (own_nx2 n x0 x1).2)] : Option Value → Hp → Prop) = Q
  refine go_aloadN (pc' := 1) K d3_0 rfl rfl rfl ?_
  refine go_alen (pc' := 2) (i := 0) (z := 2) K rfl d3_1 rfl rfl ?_
  refine go_iconst (pc' := 3) (v := 1) K d3_2 rfl rfl ?_
  refine go_isub (pc' := 4) K d3_3 rfl ?_
  rw [show ((2 - 1) : Int32) = 1 from by decide]
  refine go_istoreN (pc' := 5) (Ls' := #[.val (.ref b), .val (.int n), .val (.int 1), .unset]) K d3_4 rfl rfl ?_
  refine go_iloadN (pc' := 6) K d3_5 rfl rfl ?_
  refine go_if_lt_f (pc' := 9) K d3_6 (by decide) rfl ?_
  refine go_aloadN (pc' := 10) K d3_9 rfl rfl rfl ?_
  refine go_iloadN (pc' := 11) K d3_10 rfl rfl ?_
  refine go_iaload (pc' := 12) (i := 0) (m := 1) (x := x1) K rfl d3_11 (by decide) rfl rfl ?_
  refine go_iloadN (pc' := 13) K d3_12 rfl rfl ?_
  refine go_aloadN (pc' := 14) K d3_13 rfl rfl rfl ?_
  refine go_alen (pc' := 15) (i := 0) (z := 2) K rfl d3_14 rfl rfl ?_
  refine go_isub (pc' := 16) K d3_15 rfl ?_
  refine go_iloadN (pc' := 17) K d3_16 rfl rfl ?_
  refine go_iadd (pc' := 18) K d3_17 rfl ?_
  refine go_ic_ne (pt := 27) (pc' := 21) K d3_18 (by decide) (by decide) rfl (fun (hm1 : x1 ≠ ((n - 2) + 1)) => ?_) (fun (hm1 : x1 = ((n - 2) + 1)) => ?_)
  ·
    refine go_iloadN (pc' := 28) K d3_27 rfl rfl ?_
    refine go_if_ge_t (pc' := 33) K d3_28 (by decide) (by decide) (by decide) ?_
    refine go_aloadN (pc' := 34) K d3_33 rfl rfl rfl ?_
    refine go_iloadN (pc' := 35) K d3_34 rfl rfl ?_
    refine go_dup2 (pc' := 36) K d3_35 rfl rfl rfl ?_
    refine go_iaload (pc' := 37) (i := 0) (m := 1) (x := x1) K rfl d3_36 (by decide) rfl rfl ?_
    refine go_iconst (pc' := 38) (v := 1) K d3_37 rfl rfl ?_
    refine go_iadd (pc' := 39) K d3_38 rfl ?_
    refine go_iastore (pc' := 40) (i := 0) (m := 1) (ds' := [(b, ia [x0, (x1 + 1)])]) K rfl d3_39 (by decide) (by simp) rfl rfl ?_
    refine go_iloadN (pc' := 41) K d3_40 rfl rfl ?_
    refine go_iconst (pc' := 42) (v := 1) K d3_41 rfl rfl ?_
    refine go_iadd (pc' := 43) K d3_42 rfl ?_
    rw [show ((1 + 1) : Int32) = 2 from by decide]
    refine go_istoreN (pc' := 44) (Ls' := #[.val (.ref b), .val (.int n), .val (.int 1), .val (.int 2)]) K d3_43 rfl rfl ?_
    refine go_iloadN (pc' := 45) K d3_44 rfl rfl ?_
    refine go_aloadN (pc' := 46) K d3_45 rfl rfl rfl ?_
    refine go_alen (pc' := 47) (i := 0) (z := 2) K rfl d3_46 rfl rfl ?_
    refine go_ic_ge_t (pc' := 66) K d3_47 (by decide) (by decide) (by decide) ?_
    refine go_iconst (pc' := 67) (v := 1) K d3_66 rfl rfl ?_
    exact go_zret K d3_67 (by decide) (by decide) (Or.inr rfl) (by subst hQ; unfold own_nx2; rw [if_pos hm1]; exact ⟨rfl, rfl⟩)
  ·
    refine go_iinc (pc' := 24) (v := (-1)) (Ls' := #[.val (.ref b), .val (.int n), .val (.int 0), .unset]) K d3_21 rfl rfl rfl rfl ?_
    refine go_goto (pc' := 5) K d3_24 (by decide) (by decide) ?_
    refine go_iloadN (pc' := 6) K d3_5 rfl rfl ?_
    refine go_if_lt_f (pc' := 9) K d3_6 (by decide) rfl ?_
    refine go_aloadN (pc' := 10) K d3_9 rfl rfl rfl ?_
    refine go_iloadN (pc' := 11) K d3_10 rfl rfl ?_
    refine go_iaload (pc' := 12) (i := 0) (m := 0) (x := x0) K rfl d3_11 (by decide) rfl rfl ?_
    refine go_iloadN (pc' := 13) K d3_12 rfl rfl ?_
    refine go_aloadN (pc' := 14) K d3_13 rfl rfl rfl ?_
    refine go_alen (pc' := 15) (i := 0) (z := 2) K rfl d3_14 rfl rfl ?_
    refine go_isub (pc' := 16) K d3_15 rfl ?_
    refine go_iloadN (pc' := 17) K d3_16 rfl rfl ?_
    refine go_iadd (pc' := 18) K d3_17 rfl ?_
    refine go_ic_ne (pt := 27) (pc' := 21) K d3_18 (by decide) (by decide) rfl (fun (hm0 : x0 ≠ ((n - 2) + 0)) => ?_) (fun (hm0 : x0 = ((n - 2) + 0)) => ?_)
    ·
      refine go_iloadN (pc' := 28) K d3_27 rfl rfl ?_
      refine go_if_ge_t (pc' := 33) K d3_28 (by decide) (by decide) (by decide) ?_
      refine go_aloadN (pc' := 34) K d3_33 rfl rfl rfl ?_
      refine go_iloadN (pc' := 35) K d3_34 rfl rfl ?_
      refine go_dup2 (pc' := 36) K d3_35 rfl rfl rfl ?_
      refine go_iaload (pc' := 37) (i := 0) (m := 0) (x := x0) K rfl d3_36 (by decide) rfl rfl ?_
      refine go_iconst (pc' := 38) (v := 1) K d3_37 rfl rfl ?_
      refine go_iadd (pc' := 39) K d3_38 rfl ?_
      refine go_iastore (pc' := 40) (i := 0) (m := 0) (ds' := [(b, ia [(x0 + 1), x1])]) K rfl d3_39 (by decide) (by simp) rfl rfl ?_
      refine go_iloadN (pc' := 41) K d3_40 rfl rfl ?_
      refine go_iconst (pc' := 42) (v := 1) K d3_41 rfl rfl ?_
      refine go_iadd (pc' := 43) K d3_42 rfl ?_
      rw [show ((0 + 1) : Int32) = 1 from by decide]
      refine go_istoreN (pc' := 44) (Ls' := #[.val (.ref b), .val (.int n), .val (.int 0), .val (.int 1)]) K d3_43 rfl rfl ?_
      refine go_iloadN (pc' := 45) K d3_44 rfl rfl ?_
      refine go_aloadN (pc' := 46) K d3_45 rfl rfl rfl ?_
      refine go_alen (pc' := 47) (i := 0) (z := 2) K rfl d3_46 rfl rfl ?_
      refine go_ic_ge_f (pc' := 50) K d3_47 (by decide) rfl ?_
      refine go_aloadN (pc' := 51) K d3_50 rfl rfl rfl ?_
      refine go_iloadN (pc' := 52) K d3_51 rfl rfl ?_
      refine go_aloadN (pc' := 53) K d3_52 rfl rfl rfl ?_
      refine go_iloadN (pc' := 54) K d3_53 rfl rfl ?_
      refine go_iconst (pc' := 55) (v := 1) K d3_54 rfl rfl ?_
      refine go_isub (pc' := 56) K d3_55 rfl ?_
      rw [show ((1 - 1) : Int32) = 0 from by decide]
      refine go_iaload (pc' := 57) (i := 0) (m := 0) (x := (x0 + 1)) K rfl d3_56 (by decide) rfl rfl ?_
      refine go_iconst (pc' := 58) (v := 1) K d3_57 rfl rfl ?_
      refine go_iadd (pc' := 59) K d3_58 rfl ?_
      refine go_iastore (pc' := 60) (i := 0) (m := 1) (ds' := [(b, ia [(x0 + 1), ((x0 + 1) + 1)])]) K rfl d3_59 (by decide) (by simp) rfl rfl ?_
      refine go_iinc (pc' := 63) (v := 1) (Ls' := #[.val (.ref b), .val (.int n), .val (.int 0), .val (.int 2)]) K d3_60 rfl rfl rfl rfl ?_
      refine go_goto (pc' := 44) K d3_63 (by decide) (by decide) ?_
      refine go_iloadN (pc' := 45) K d3_44 rfl rfl ?_
      refine go_aloadN (pc' := 46) K d3_45 rfl rfl rfl ?_
      refine go_alen (pc' := 47) (i := 0) (z := 2) K rfl d3_46 rfl rfl ?_
      refine go_ic_ge_t (pc' := 66) K d3_47 (by decide) (by decide) (by decide) ?_
      refine go_iconst (pc' := 67) (v := 1) K d3_66 rfl rfl ?_
      exact go_zret K d3_67 (by decide) (by decide) (Or.inr rfl) (by subst hQ; unfold own_nx2; rw [if_neg (Decidable.not_not.mpr hm1), if_pos hm0]; exact ⟨rfl, rfl⟩)
    ·
      refine go_iinc (pc' := 24) (v := (-1)) (Ls' := #[.val (.ref b), .val (.int n), .val (.int (-1)), .unset]) K d3_21 rfl rfl rfl rfl ?_
      refine go_goto (pc' := 5) K d3_24 (by decide) (by decide) ?_
      refine go_iloadN (pc' := 6) K d3_5 rfl rfl ?_
      refine go_if_lt_t (pc' := 27) K d3_6 (by decide) (by decide) (by decide) ?_
      refine go_iloadN (pc' := 28) K d3_27 rfl rfl ?_
      refine go_if_ge_f (pc' := 31) K d3_28 (by decide) rfl ?_
      refine go_iconst (pc' := 32) (v := 0) K d3_31 rfl rfl ?_
      exact go_zret K d3_32 (by decide) (by decide) (Or.inl rfl) (by subst hQ; unfold own_nx2; rw [if_neg (Decidable.not_not.mpr hm1), if_neg (Decidable.not_not.mpr hm0)]; exact ⟨rfl, rfl⟩)
set_option maxRecDepth 65536 in
set_option maxHeartbeats 40000000 in
theorem ct_valid2 (l : Launch) (Z : State) (h0 : Heap) (a0 : Array Value) (hw : ∀ d ∈ tables_1, d.before a0 Z = true) (ds : Hp) (i b : Nat) (n x0 x1 : Int32) (ha : ds[i]? = some (b, ia [x0, x1])) :
    Ct l Z h0 (⟨"com/example/xpath_reasoner/xpathreasoner/reason/InterleavingsNextChoicePinLaw", "valid", "([III)Z"⟩ : MethodName) method_5_code 3 (some .boolean) [] ({ frames := 0, cells := 0, slots := 0, locals := 0 } : Room) #[(.ref b), (.int 2), (.int n)] ds (fun v ds' => v = some (.int (own_vd2 n x0 x1)) ∧ ds' = ds) := by
  refine Ct.of_go (Ls := #[.val (.ref b), .val (.int 2), .val (.int n)]) pf_4 (fun m => by first | (simp [entryFrame, mkF, argsToLocals, Value.category, maxLocals]; done) | rfl) (fun W K => ?_)
  generalize hQ : (fun v ds' => v = some (.int (own_vd2 n x0 x1)) ∧ ds' = ds : Option Value → Hp → Prop) = Q
  refine go_iloadN (pc' := 1) K d4_0 rfl rfl ?_
  refine go_if_ne_t (pc' := 6) K d4_1 (by decide) (by decide) (by decide) ?_
  refine go_aloadN (pc' := 7) K d4_6 rfl rfl rfl ?_
  refine go_iconst (pc' := 8) (v := 0) K d4_7 rfl rfl ?_
  refine go_iaload (pc' := 9) (i := i) (m := 0) (x := x0) K ha d4_8 (by decide) rfl rfl ?_
  refine go_if_ge (pt := 14) (pc' := 12) K d4_9 (by decide) (by decide) rfl (fun (h0 : 0 ≤ x0.toInt) => ?_) (fun (h0 : x0.toInt < 0) => ?_)
  ·
    refine go_iloadN (pc' := 15) K d4_14 rfl rfl ?_
    refine go_iconst (pc' := 16) (v := 1) K d4_15 rfl rfl ?_
    refine go_ic_le_f (pc' := 19) K d4_16 (by decide) rfl ?_
    refine go_aloadN (pc' := 20) K d4_19 rfl rfl rfl ?_
    refine go_iconst (pc' := 21) (v := 0) K d4_20 rfl rfl ?_
    refine go_iaload (pc' := 22) (i := i) (m := 0) (x := x0) K ha d4_21 (by decide) rfl rfl ?_
    refine go_aloadN (pc' := 23) K d4_22 rfl rfl rfl ?_
    refine go_iconst (pc' := 24) (v := 1) K d4_23 rfl rfl ?_
    refine go_iaload (pc' := 25) (i := i) (m := 1) (x := x1) K ha d4_24 (by decide) rfl rfl ?_
    refine go_ic_lt (pt := 30) (pc' := 28) K d4_25 (by decide) (by decide) rfl (fun (h1 : x0.toInt < x1.toInt) => ?_) (fun (h1 : x1.toInt ≤ x0.toInt) => ?_)
    ·
      refine go_iloadN (pc' := 31) K d4_30 rfl rfl ?_
      refine go_iconst (pc' := 32) (v := 2) K d4_31 rfl rfl ?_
      refine go_ic_le_t (pc' := 46) K d4_32 (by decide) (by decide) (by decide) ?_
      refine go_aloadN (pc' := 47) K d4_46 rfl rfl rfl ?_
      refine go_iloadN (pc' := 48) K d4_47 rfl rfl ?_
      refine go_iconst (pc' := 49) (v := 1) K d4_48 rfl rfl ?_
      refine go_isub (pc' := 50) K d4_49 rfl ?_
      rw [show ((2 - 1) : Int32) = 1 from by decide]
      refine go_iaload (pc' := 51) (i := i) (m := 1) (x := x1) K ha d4_50 (by decide) rfl rfl ?_
      refine go_iloadN (pc' := 52) K d4_51 rfl rfl ?_
      refine go_ic_ge (pt := 59) (pc' := 55) K d4_52 (by decide) (by decide) rfl (fun (h3 : n.toInt ≤ x1.toInt) => ?_) (fun (h3 : x1.toInt < n.toInt) => ?_)
      ·
        refine go_iconst (pc' := 60) (v := 0) K d4_59 rfl rfl ?_
        exact go_zret K d4_60 (by decide) (by decide) (Or.inl rfl) (by subst hQ; refine ⟨?_, rfl⟩; unfold own_vd2; rw [if_pos h0, if_pos h1, if_pos h3])
      ·
        refine go_iconst (pc' := 56) (v := 1) K d4_55 rfl rfl ?_
        refine go_goto (pc' := 60) K d4_56 (by decide) (by decide) ?_
        exact go_zret K d4_60 (by decide) (by decide) (Or.inr rfl) (by subst hQ; refine ⟨?_, rfl⟩; unfold own_vd2; rw [if_pos h0, if_pos h1, if_neg (by omega)])
    ·
      refine go_iconst (pc' := 29) (v := 0) K d4_28 rfl rfl ?_
      exact go_zret K d4_29 (by decide) (by decide) (Or.inl rfl) (by subst hQ; refine ⟨?_, rfl⟩; unfold own_vd2; rw [if_pos h0, if_neg (by omega)])
  ·
    refine go_iconst (pc' := 13) (v := 0) K d4_12 rfl rfl ?_
    exact go_zret K d4_13 (by decide) (by decide) (Or.inl rfl) (by subst hQ; refine ⟨?_, rfl⟩; unfold own_vd2; rw [if_neg (by omega)])
set_option maxRecDepth 65536 in
set_option maxHeartbeats 40000000 in
theorem ct_rank3 (l : Launch) (Z : State) (h0 : Heap) (a0 : Array Value) (hw : ∀ d ∈ tables_1, d.before a0 Z = true) (ds : Hp) (i b : Nat) (n x0 x1 x2 : Int32) (ha : ds[i]? = some (b, ia [x0, x1, x2])) :
    Ct l Z h0 (⟨"com/example/xpath_reasoner/xpathreasoner/reason/InterleavingsNextChoicePinLaw", "rank", "([III)J"⟩ : MethodName) method_4_code 5 (some .long) [] ({ frames := 1, cells := 0, slots := 0, locals := 20 } : Room) #[(.ref b), (.int 3), (.int n)] ds (fun v ds' => v = some (.long (own_rk3 n x0 x1 x2)) ∧ ds' = ds) := by
  refine Ct.of_go (Ls := #[.val (.ref b), .val (.int 3), .val (.int n), .unset, .unset]) pf_2 (fun m => by first | (simp [entryFrame, mkF, argsToLocals, Value.category, maxLocals]; done) | rfl) (fun W K => ?_)
  generalize hQ : (fun v ds' => v = some (.long (own_rk3 n x0 x1 x2)) ∧ ds' = ds : Option Value → Hp → Prop) = Q
  refine go_lconst (pc' := 1) (v := 0) K d2_0 rfl rfl ?_
  refine go_lstoreN (pc' := 2) (Ls' := #[.val (.ref b), .val (.int 3), .val (.int n), .val (.long 0), .second]) K d2_1 rfl rfl ?_
  refine go_iloadN (pc' := 3) K d2_2 rfl rfl ?_
  refine go_if_le_f (pc' := 6) K d2_3 (by decide) rfl ?_
  refine go_lloadN (pc' := 7) K d2_6 rfl rfl ?_
  refine go_iloadN (pc' := 8) K d2_7 rfl rfl ?_
  refine go_iconst (pc' := 9) (v := 1) K d2_8 rfl rfl ?_
  refine go_isub (pc' := 10) K d2_9 rfl ?_
  refine go_aloadN (pc' := 11) K d2_10 rfl rfl rfl ?_
  refine go_iloadN (pc' := 12) K d2_11 rfl rfl ?_
  refine go_iconst (pc' := 13) (v := 1) K d2_12 rfl rfl ?_
  refine go_isub (pc' := 14) K d2_13 rfl ?_
  rw [show ((3 - 1) : Int32) = 2 from by decide]
  refine go_iaload (pc' := 15) (i := i) (m := 2) (x := x2) K ha d2_14 (by decide) rfl rfl ?_
  refine go_isub (pc' := 16) K d2_15 rfl ?_
  refine go_i2l (pc' := 17) K d2_16 rfl ?_
  refine go_iconst (pc' := 18) (v := 1) K d2_17 rfl rfl ?_
  refine go_static (pc' := 21) (Wd := 2) (y' := ⟨"com/example/xpath_reasoner/xpathreasoner/reason/InterleavingsNextChoicePinLaw", "binom", "(JI)J"⟩) (argsL := [(.long (((n - 1) - x2).toInt64)), (.int 1)]) (rest := [(.long 0)]) K (hw _ (List.mem_of_getElem? (i := 1) rfl)) (hw _ (List.mem_of_getElem? (i := 2) rfl)) (hw _ (List.mem_of_getElem? (i := 3) rfl)) (hw _ (List.mem_of_getElem? (i := 4) rfl)) d2_18 (ct_bin1 l Z h0 a0 hw _ (((n - 1) - x2).toInt64)) (lenOf pd__JI_J rfl) rfl rfl (by decide) rfl (by decide) (by decide) (by decide) (by decide) rfl ?_
  rintro _ ds' ⟨rfl, hds⟩
  rw [hds]
  show Go W Q ds 0 0 21 #[.val (.ref b), .val (.int 3), .val (.int n), .val (.long 0), .second] [(.long (own_c1 (((n - 1) - x2).toInt64))), (.long 0)]
  refine go_ladd (pc' := 22) K d2_21 rfl ?_
  refine go_lstoreN (pc' := 23) (Ls' := #[.val (.ref b), .val (.int 3), .val (.int n), .val (.long (0 + (own_c1 (((n - 1) - x2).toInt64)))), .second]) K d2_22 rfl rfl ?_
  refine go_iloadN (pc' := 24) K d2_23 rfl rfl ?_
  refine go_iconst (pc' := 25) (v := 1) K d2_24 rfl rfl ?_
  refine go_ic_le_f (pc' := 28) K d2_25 (by decide) rfl ?_
  refine go_lloadN (pc' := 29) K d2_28 rfl rfl ?_
  refine go_iloadN (pc' := 30) K d2_29 rfl rfl ?_
  refine go_iconst (pc' := 31) (v := 1) K d2_30 rfl rfl ?_
  refine go_isub (pc' := 32) K d2_31 rfl ?_
  refine go_aloadN (pc' := 33) K d2_32 rfl rfl rfl ?_
  refine go_iloadN (pc' := 34) K d2_33 rfl rfl ?_
  refine go_iconst (pc' := 35) (v := 2) K d2_34 rfl rfl ?_
  refine go_isub (pc' := 36) K d2_35 rfl ?_
  rw [show ((3 - 2) : Int32) = 1 from by decide]
  refine go_iaload (pc' := 37) (i := i) (m := 1) (x := x1) K ha d2_36 (by decide) rfl rfl ?_
  refine go_isub (pc' := 38) K d2_37 rfl ?_
  refine go_i2l (pc' := 39) K d2_38 rfl ?_
  refine go_iconst (pc' := 40) (v := 2) K d2_39 rfl rfl ?_
  refine go_static (pc' := 43) (Wd := 2) (y' := ⟨"com/example/xpath_reasoner/xpathreasoner/reason/InterleavingsNextChoicePinLaw", "binom", "(JI)J"⟩) (argsL := [(.long (((n - 1) - x1).toInt64)), (.int 2)]) (rest := [(.long (0 + (own_c1 (((n - 1) - x2).toInt64))))]) K (hw _ (List.mem_of_getElem? (i := 1) rfl)) (hw _ (List.mem_of_getElem? (i := 2) rfl)) (hw _ (List.mem_of_getElem? (i := 3) rfl)) (hw _ (List.mem_of_getElem? (i := 4) rfl)) d2_40 (ct_bin2 l Z h0 a0 hw _ (((n - 1) - x1).toInt64)) (lenOf pd__JI_J rfl) rfl rfl (by decide) rfl (by decide) (by decide) (by decide) (by decide) rfl ?_
  rintro _ ds' ⟨rfl, hds⟩
  rw [hds]
  show Go W Q ds 0 0 43 #[.val (.ref b), .val (.int 3), .val (.int n), .val (.long (0 + (own_c1 (((n - 1) - x2).toInt64)))), .second] [(.long (own_c2 (((n - 1) - x1).toInt64))), (.long (0 + (own_c1 (((n - 1) - x2).toInt64))))]
  refine go_ladd (pc' := 44) K d2_43 rfl ?_
  refine go_lstoreN (pc' := 45) (Ls' := #[.val (.ref b), .val (.int 3), .val (.int n), .val (.long ((0 + (own_c1 (((n - 1) - x2).toInt64))) + (own_c2 (((n - 1) - x1).toInt64)))), .second]) K d2_44 rfl rfl ?_
  refine go_iloadN (pc' := 46) K d2_45 rfl rfl ?_
  refine go_iconst (pc' := 47) (v := 2) K d2_46 rfl rfl ?_
  refine go_ic_le_f (pc' := 50) K d2_47 (by decide) rfl ?_
  refine go_lloadN (pc' := 51) K d2_50 rfl rfl ?_
  refine go_iloadN (pc' := 52) K d2_51 rfl rfl ?_
  refine go_iconst (pc' := 53) (v := 1) K d2_52 rfl rfl ?_
  refine go_isub (pc' := 54) K d2_53 rfl ?_
  refine go_aloadN (pc' := 55) K d2_54 rfl rfl rfl ?_
  refine go_iloadN (pc' := 56) K d2_55 rfl rfl ?_
  refine go_iconst (pc' := 57) (v := 3) K d2_56 rfl rfl ?_
  refine go_isub (pc' := 58) K d2_57 rfl ?_
  rw [show ((3 - 3) : Int32) = 0 from by decide]
  refine go_iaload (pc' := 59) (i := i) (m := 0) (x := x0) K ha d2_58 (by decide) rfl rfl ?_
  refine go_isub (pc' := 60) K d2_59 rfl ?_
  refine go_i2l (pc' := 61) K d2_60 rfl ?_
  refine go_iconst (pc' := 62) (v := 3) K d2_61 rfl rfl ?_
  refine go_static (pc' := 65) (Wd := 2) (y' := ⟨"com/example/xpath_reasoner/xpathreasoner/reason/InterleavingsNextChoicePinLaw", "binom", "(JI)J"⟩) (argsL := [(.long (((n - 1) - x0).toInt64)), (.int 3)]) (rest := [(.long ((0 + (own_c1 (((n - 1) - x2).toInt64))) + (own_c2 (((n - 1) - x1).toInt64))))]) K (hw _ (List.mem_of_getElem? (i := 1) rfl)) (hw _ (List.mem_of_getElem? (i := 2) rfl)) (hw _ (List.mem_of_getElem? (i := 3) rfl)) (hw _ (List.mem_of_getElem? (i := 4) rfl)) d2_62 (ct_bin3 l Z h0 a0 hw _ (((n - 1) - x0).toInt64)) (lenOf pd__JI_J rfl) rfl rfl (by decide) rfl (by decide) (by decide) (by decide) (by decide) rfl ?_
  rintro _ ds' ⟨rfl, hds⟩
  rw [hds]
  show Go W Q ds 0 0 65 #[.val (.ref b), .val (.int 3), .val (.int n), .val (.long ((0 + (own_c1 (((n - 1) - x2).toInt64))) + (own_c2 (((n - 1) - x1).toInt64)))), .second] [(.long (own_c3 (((n - 1) - x0).toInt64))), (.long ((0 + (own_c1 (((n - 1) - x2).toInt64))) + (own_c2 (((n - 1) - x1).toInt64))))]
  refine go_ladd (pc' := 66) K d2_65 rfl ?_
  refine go_lstoreN (pc' := 67) (Ls' := #[.val (.ref b), .val (.int 3), .val (.int n), .val (.long (((0 + (own_c1 (((n - 1) - x2).toInt64))) + (own_c2 (((n - 1) - x1).toInt64))) + (own_c3 (((n - 1) - x0).toInt64)))), .second]) K d2_66 rfl rfl ?_
  refine go_iloadN (pc' := 68) K d2_67 rfl rfl ?_
  refine go_i2l (pc' := 69) K d2_68 rfl ?_
  refine go_iloadN (pc' := 70) K d2_69 rfl rfl ?_
  refine go_static (pc' := 73) (Wd := 0) (y' := ⟨"com/example/xpath_reasoner/xpathreasoner/reason/InterleavingsNextChoicePinLaw", "binom", "(JI)J"⟩) (argsL := [(.long n.toInt64), (.int 3)]) (rest := []) K (hw _ (List.mem_of_getElem? (i := 1) rfl)) (hw _ (List.mem_of_getElem? (i := 2) rfl)) (hw _ (List.mem_of_getElem? (i := 3) rfl)) (hw _ (List.mem_of_getElem? (i := 4) rfl)) d2_70 (ct_bin3 l Z h0 a0 hw _ n.toInt64) (lenOf pd__JI_J rfl) rfl rfl (by decide) rfl (by decide) (by decide) (by decide) (by decide) rfl ?_
  rintro _ ds' ⟨rfl, hds⟩
  rw [hds]
  show Go W Q ds 0 0 73 #[.val (.ref b), .val (.int 3), .val (.int n), .val (.long (((0 + (own_c1 (((n - 1) - x2).toInt64))) + (own_c2 (((n - 1) - x1).toInt64))) + (own_c3 (((n - 1) - x0).toInt64)))), .second] [(.long (own_c3 n.toInt64))]
  refine go_lconst (pc' := 74) (v := 1) K d2_73 rfl rfl ?_
  refine go_lsub (pc' := 75) K d2_74 rfl ?_
  refine go_lloadN (pc' := 76) K d2_75 rfl rfl ?_
  refine go_lsub (pc' := 77) K d2_76 rfl ?_
  exact go_lret K d2_77 (by decide) (by decide) (by subst hQ; exact ⟨rfl, rfl⟩)
set_option maxRecDepth 65536 in
set_option maxHeartbeats 40000000 in
theorem ct_next3 (l : Launch) (Z : State) (h0 : Heap) (a0 : Array Value) (hw : ∀ d ∈ tables_1, d.before a0 Z = true) (b : Nat) (n x0 x1 x2 : Int32) :
    Ct l Z h0 (⟨"com/example/xpath_reasoner/xpathreasoner/reason/Interleavings", "nextChoice", "([II)Z"⟩ : MethodName) prog_135_method_12_code 4 (some .boolean) [] ({ frames := 0, cells := 0, slots := 0, locals := 0 } : Room) #[(.ref b), (.int n)] [(b, ia [x0, x1, x2])] (fun v ds' => v = some (.int (own_nx3 n x0 x1 x2).1) ∧ ds' = [(b, ia (own_nx3 n x0 x1 x2).2)]) := by
  refine Ct.of_go (Ls := #[.val (.ref b), .val (.int n), .unset, .unset]) pf_3 (fun m => by first | (simp [entryFrame, mkF, argsToLocals, Value.category, maxLocals]; done) | rfl) (fun W K => ?_)
  generalize hQ : (fun v ds' => v = some (.int (own_nx3 n x0 x1 x2).1) ∧ ds' = [(b, ia (own_nx3 n x0 x1 x2).2)] : Option Value → Hp → Prop) = Q
  refine go_aloadN (pc' := 1) K d3_0 rfl rfl rfl ?_
  refine go_alen (pc' := 2) (i := 0) (z := 3) K rfl d3_1 rfl rfl ?_
  refine go_iconst (pc' := 3) (v := 1) K d3_2 rfl rfl ?_
  refine go_isub (pc' := 4) K d3_3 rfl ?_
  rw [show ((3 - 1) : Int32) = 2 from by decide]
  refine go_istoreN (pc' := 5) (Ls' := #[.val (.ref b), .val (.int n), .val (.int 2), .unset]) K d3_4 rfl rfl ?_
  refine go_iloadN (pc' := 6) K d3_5 rfl rfl ?_
  refine go_if_lt_f (pc' := 9) K d3_6 (by decide) rfl ?_
  refine go_aloadN (pc' := 10) K d3_9 rfl rfl rfl ?_
  refine go_iloadN (pc' := 11) K d3_10 rfl rfl ?_
  refine go_iaload (pc' := 12) (i := 0) (m := 2) (x := x2) K rfl d3_11 (by decide) rfl rfl ?_
  refine go_iloadN (pc' := 13) K d3_12 rfl rfl ?_
  refine go_aloadN (pc' := 14) K d3_13 rfl rfl rfl ?_
  refine go_alen (pc' := 15) (i := 0) (z := 3) K rfl d3_14 rfl rfl ?_
  refine go_isub (pc' := 16) K d3_15 rfl ?_
  refine go_iloadN (pc' := 17) K d3_16 rfl rfl ?_
  refine go_iadd (pc' := 18) K d3_17 rfl ?_
  refine go_ic_ne (pt := 27) (pc' := 21) K d3_18 (by decide) (by decide) rfl (fun (hm2 : x2 ≠ ((n - 3) + 2)) => ?_) (fun (hm2 : x2 = ((n - 3) + 2)) => ?_)
  ·
    refine go_iloadN (pc' := 28) K d3_27 rfl rfl ?_
    refine go_if_ge_t (pc' := 33) K d3_28 (by decide) (by decide) (by decide) ?_
    refine go_aloadN (pc' := 34) K d3_33 rfl rfl rfl ?_
    refine go_iloadN (pc' := 35) K d3_34 rfl rfl ?_
    refine go_dup2 (pc' := 36) K d3_35 rfl rfl rfl ?_
    refine go_iaload (pc' := 37) (i := 0) (m := 2) (x := x2) K rfl d3_36 (by decide) rfl rfl ?_
    refine go_iconst (pc' := 38) (v := 1) K d3_37 rfl rfl ?_
    refine go_iadd (pc' := 39) K d3_38 rfl ?_
    refine go_iastore (pc' := 40) (i := 0) (m := 2) (ds' := [(b, ia [x0, x1, (x2 + 1)])]) K rfl d3_39 (by decide) (by simp) rfl rfl ?_
    refine go_iloadN (pc' := 41) K d3_40 rfl rfl ?_
    refine go_iconst (pc' := 42) (v := 1) K d3_41 rfl rfl ?_
    refine go_iadd (pc' := 43) K d3_42 rfl ?_
    rw [show ((2 + 1) : Int32) = 3 from by decide]
    refine go_istoreN (pc' := 44) (Ls' := #[.val (.ref b), .val (.int n), .val (.int 2), .val (.int 3)]) K d3_43 rfl rfl ?_
    refine go_iloadN (pc' := 45) K d3_44 rfl rfl ?_
    refine go_aloadN (pc' := 46) K d3_45 rfl rfl rfl ?_
    refine go_alen (pc' := 47) (i := 0) (z := 3) K rfl d3_46 rfl rfl ?_
    refine go_ic_ge_t (pc' := 66) K d3_47 (by decide) (by decide) (by decide) ?_
    refine go_iconst (pc' := 67) (v := 1) K d3_66 rfl rfl ?_
    exact go_zret K d3_67 (by decide) (by decide) (Or.inr rfl) (by subst hQ; unfold own_nx3; rw [if_pos hm2]; exact ⟨rfl, rfl⟩)
  ·
    refine go_iinc (pc' := 24) (v := (-1)) (Ls' := #[.val (.ref b), .val (.int n), .val (.int 1), .unset]) K d3_21 rfl rfl rfl rfl ?_
    refine go_goto (pc' := 5) K d3_24 (by decide) (by decide) ?_
    refine go_iloadN (pc' := 6) K d3_5 rfl rfl ?_
    refine go_if_lt_f (pc' := 9) K d3_6 (by decide) rfl ?_
    refine go_aloadN (pc' := 10) K d3_9 rfl rfl rfl ?_
    refine go_iloadN (pc' := 11) K d3_10 rfl rfl ?_
    refine go_iaload (pc' := 12) (i := 0) (m := 1) (x := x1) K rfl d3_11 (by decide) rfl rfl ?_
    refine go_iloadN (pc' := 13) K d3_12 rfl rfl ?_
    refine go_aloadN (pc' := 14) K d3_13 rfl rfl rfl ?_
    refine go_alen (pc' := 15) (i := 0) (z := 3) K rfl d3_14 rfl rfl ?_
    refine go_isub (pc' := 16) K d3_15 rfl ?_
    refine go_iloadN (pc' := 17) K d3_16 rfl rfl ?_
    refine go_iadd (pc' := 18) K d3_17 rfl ?_
    refine go_ic_ne (pt := 27) (pc' := 21) K d3_18 (by decide) (by decide) rfl (fun (hm1 : x1 ≠ ((n - 3) + 1)) => ?_) (fun (hm1 : x1 = ((n - 3) + 1)) => ?_)
    ·
      refine go_iloadN (pc' := 28) K d3_27 rfl rfl ?_
      refine go_if_ge_t (pc' := 33) K d3_28 (by decide) (by decide) (by decide) ?_
      refine go_aloadN (pc' := 34) K d3_33 rfl rfl rfl ?_
      refine go_iloadN (pc' := 35) K d3_34 rfl rfl ?_
      refine go_dup2 (pc' := 36) K d3_35 rfl rfl rfl ?_
      refine go_iaload (pc' := 37) (i := 0) (m := 1) (x := x1) K rfl d3_36 (by decide) rfl rfl ?_
      refine go_iconst (pc' := 38) (v := 1) K d3_37 rfl rfl ?_
      refine go_iadd (pc' := 39) K d3_38 rfl ?_
      refine go_iastore (pc' := 40) (i := 0) (m := 1) (ds' := [(b, ia [x0, (x1 + 1), x2])]) K rfl d3_39 (by decide) (by simp) rfl rfl ?_
      refine go_iloadN (pc' := 41) K d3_40 rfl rfl ?_
      refine go_iconst (pc' := 42) (v := 1) K d3_41 rfl rfl ?_
      refine go_iadd (pc' := 43) K d3_42 rfl ?_
      rw [show ((1 + 1) : Int32) = 2 from by decide]
      refine go_istoreN (pc' := 44) (Ls' := #[.val (.ref b), .val (.int n), .val (.int 1), .val (.int 2)]) K d3_43 rfl rfl ?_
      refine go_iloadN (pc' := 45) K d3_44 rfl rfl ?_
      refine go_aloadN (pc' := 46) K d3_45 rfl rfl rfl ?_
      refine go_alen (pc' := 47) (i := 0) (z := 3) K rfl d3_46 rfl rfl ?_
      refine go_ic_ge_f (pc' := 50) K d3_47 (by decide) rfl ?_
      refine go_aloadN (pc' := 51) K d3_50 rfl rfl rfl ?_
      refine go_iloadN (pc' := 52) K d3_51 rfl rfl ?_
      refine go_aloadN (pc' := 53) K d3_52 rfl rfl rfl ?_
      refine go_iloadN (pc' := 54) K d3_53 rfl rfl ?_
      refine go_iconst (pc' := 55) (v := 1) K d3_54 rfl rfl ?_
      refine go_isub (pc' := 56) K d3_55 rfl ?_
      rw [show ((2 - 1) : Int32) = 1 from by decide]
      refine go_iaload (pc' := 57) (i := 0) (m := 1) (x := (x1 + 1)) K rfl d3_56 (by decide) rfl rfl ?_
      refine go_iconst (pc' := 58) (v := 1) K d3_57 rfl rfl ?_
      refine go_iadd (pc' := 59) K d3_58 rfl ?_
      refine go_iastore (pc' := 60) (i := 0) (m := 2) (ds' := [(b, ia [x0, (x1 + 1), ((x1 + 1) + 1)])]) K rfl d3_59 (by decide) (by simp) rfl rfl ?_
      refine go_iinc (pc' := 63) (v := 1) (Ls' := #[.val (.ref b), .val (.int n), .val (.int 1), .val (.int 3)]) K d3_60 rfl rfl rfl rfl ?_
      refine go_goto (pc' := 44) K d3_63 (by decide) (by decide) ?_
      refine go_iloadN (pc' := 45) K d3_44 rfl rfl ?_
      refine go_aloadN (pc' := 46) K d3_45 rfl rfl rfl ?_
      refine go_alen (pc' := 47) (i := 0) (z := 3) K rfl d3_46 rfl rfl ?_
      refine go_ic_ge_t (pc' := 66) K d3_47 (by decide) (by decide) (by decide) ?_
      refine go_iconst (pc' := 67) (v := 1) K d3_66 rfl rfl ?_
      exact go_zret K d3_67 (by decide) (by decide) (Or.inr rfl) (by subst hQ; unfold own_nx3; rw [if_neg (Decidable.not_not.mpr hm2), if_pos hm1]; exact ⟨rfl, rfl⟩)
    ·
      refine go_iinc (pc' := 24) (v := (-1)) (Ls' := #[.val (.ref b), .val (.int n), .val (.int 0), .unset]) K d3_21 rfl rfl rfl rfl ?_
      refine go_goto (pc' := 5) K d3_24 (by decide) (by decide) ?_
      refine go_iloadN (pc' := 6) K d3_5 rfl rfl ?_
      refine go_if_lt_f (pc' := 9) K d3_6 (by decide) rfl ?_
      refine go_aloadN (pc' := 10) K d3_9 rfl rfl rfl ?_
      refine go_iloadN (pc' := 11) K d3_10 rfl rfl ?_
      refine go_iaload (pc' := 12) (i := 0) (m := 0) (x := x0) K rfl d3_11 (by decide) rfl rfl ?_
      refine go_iloadN (pc' := 13) K d3_12 rfl rfl ?_
      refine go_aloadN (pc' := 14) K d3_13 rfl rfl rfl ?_
      refine go_alen (pc' := 15) (i := 0) (z := 3) K rfl d3_14 rfl rfl ?_
      refine go_isub (pc' := 16) K d3_15 rfl ?_
      refine go_iloadN (pc' := 17) K d3_16 rfl rfl ?_
      refine go_iadd (pc' := 18) K d3_17 rfl ?_
      refine go_ic_ne (pt := 27) (pc' := 21) K d3_18 (by decide) (by decide) rfl (fun (hm0 : x0 ≠ ((n - 3) + 0)) => ?_) (fun (hm0 : x0 = ((n - 3) + 0)) => ?_)
      ·
        refine go_iloadN (pc' := 28) K d3_27 rfl rfl ?_
        refine go_if_ge_t (pc' := 33) K d3_28 (by decide) (by decide) (by decide) ?_
        refine go_aloadN (pc' := 34) K d3_33 rfl rfl rfl ?_
        refine go_iloadN (pc' := 35) K d3_34 rfl rfl ?_
        refine go_dup2 (pc' := 36) K d3_35 rfl rfl rfl ?_
        refine go_iaload (pc' := 37) (i := 0) (m := 0) (x := x0) K rfl d3_36 (by decide) rfl rfl ?_
        refine go_iconst (pc' := 38) (v := 1) K d3_37 rfl rfl ?_
        refine go_iadd (pc' := 39) K d3_38 rfl ?_
        refine go_iastore (pc' := 40) (i := 0) (m := 0) (ds' := [(b, ia [(x0 + 1), x1, x2])]) K rfl d3_39 (by decide) (by simp) rfl rfl ?_
        refine go_iloadN (pc' := 41) K d3_40 rfl rfl ?_
        refine go_iconst (pc' := 42) (v := 1) K d3_41 rfl rfl ?_
        refine go_iadd (pc' := 43) K d3_42 rfl ?_
        rw [show ((0 + 1) : Int32) = 1 from by decide]
        refine go_istoreN (pc' := 44) (Ls' := #[.val (.ref b), .val (.int n), .val (.int 0), .val (.int 1)]) K d3_43 rfl rfl ?_
        refine go_iloadN (pc' := 45) K d3_44 rfl rfl ?_
        refine go_aloadN (pc' := 46) K d3_45 rfl rfl rfl ?_
        refine go_alen (pc' := 47) (i := 0) (z := 3) K rfl d3_46 rfl rfl ?_
        refine go_ic_ge_f (pc' := 50) K d3_47 (by decide) rfl ?_
        refine go_aloadN (pc' := 51) K d3_50 rfl rfl rfl ?_
        refine go_iloadN (pc' := 52) K d3_51 rfl rfl ?_
        refine go_aloadN (pc' := 53) K d3_52 rfl rfl rfl ?_
        refine go_iloadN (pc' := 54) K d3_53 rfl rfl ?_
        refine go_iconst (pc' := 55) (v := 1) K d3_54 rfl rfl ?_
        refine go_isub (pc' := 56) K d3_55 rfl ?_
        rw [show ((1 - 1) : Int32) = 0 from by decide]
        refine go_iaload (pc' := 57) (i := 0) (m := 0) (x := (x0 + 1)) K rfl d3_56 (by decide) rfl rfl ?_
        refine go_iconst (pc' := 58) (v := 1) K d3_57 rfl rfl ?_
        refine go_iadd (pc' := 59) K d3_58 rfl ?_
        refine go_iastore (pc' := 60) (i := 0) (m := 1) (ds' := [(b, ia [(x0 + 1), ((x0 + 1) + 1), x2])]) K rfl d3_59 (by decide) (by simp) rfl rfl ?_
        refine go_iinc (pc' := 63) (v := 1) (Ls' := #[.val (.ref b), .val (.int n), .val (.int 0), .val (.int 2)]) K d3_60 rfl rfl rfl rfl ?_
        refine go_goto (pc' := 44) K d3_63 (by decide) (by decide) ?_
        refine go_iloadN (pc' := 45) K d3_44 rfl rfl ?_
        refine go_aloadN (pc' := 46) K d3_45 rfl rfl rfl ?_
        refine go_alen (pc' := 47) (i := 0) (z := 3) K rfl d3_46 rfl rfl ?_
        refine go_ic_ge_f (pc' := 50) K d3_47 (by decide) rfl ?_
        refine go_aloadN (pc' := 51) K d3_50 rfl rfl rfl ?_
        refine go_iloadN (pc' := 52) K d3_51 rfl rfl ?_
        refine go_aloadN (pc' := 53) K d3_52 rfl rfl rfl ?_
        refine go_iloadN (pc' := 54) K d3_53 rfl rfl ?_
        refine go_iconst (pc' := 55) (v := 1) K d3_54 rfl rfl ?_
        refine go_isub (pc' := 56) K d3_55 rfl ?_
        rw [show ((2 - 1) : Int32) = 1 from by decide]
        refine go_iaload (pc' := 57) (i := 0) (m := 1) (x := ((x0 + 1) + 1)) K rfl d3_56 (by decide) rfl rfl ?_
        refine go_iconst (pc' := 58) (v := 1) K d3_57 rfl rfl ?_
        refine go_iadd (pc' := 59) K d3_58 rfl ?_
        refine go_iastore (pc' := 60) (i := 0) (m := 2) (ds' := [(b, ia [(x0 + 1), ((x0 + 1) + 1), (((x0 + 1) + 1) + 1)])]) K rfl d3_59 (by decide) (by simp) rfl rfl ?_
        refine go_iinc (pc' := 63) (v := 1) (Ls' := #[.val (.ref b), .val (.int n), .val (.int 0), .val (.int 3)]) K d3_60 rfl rfl rfl rfl ?_
        refine go_goto (pc' := 44) K d3_63 (by decide) (by decide) ?_
        refine go_iloadN (pc' := 45) K d3_44 rfl rfl ?_
        refine go_aloadN (pc' := 46) K d3_45 rfl rfl rfl ?_
        refine go_alen (pc' := 47) (i := 0) (z := 3) K rfl d3_46 rfl rfl ?_
        refine go_ic_ge_t (pc' := 66) K d3_47 (by decide) (by decide) (by decide) ?_
        refine go_iconst (pc' := 67) (v := 1) K d3_66 rfl rfl ?_
        exact go_zret K d3_67 (by decide) (by decide) (Or.inr rfl) (by subst hQ; unfold own_nx3; rw [if_neg (Decidable.not_not.mpr hm2), if_neg (Decidable.not_not.mpr hm1), if_pos hm0]; exact ⟨rfl, rfl⟩)
      ·
        refine go_iinc (pc' := 24) (v := (-1)) (Ls' := #[.val (.ref b), .val (.int n), .val (.int (-1)), .unset]) K d3_21 rfl rfl rfl rfl ?_
        refine go_goto (pc' := 5) K d3_24 (by decide) (by decide) ?_
        refine go_iloadN (pc' := 6) K d3_5 rfl rfl ?_
        refine go_if_lt_t (pc' := 27) K d3_6 (by decide) (by decide) (by decide) ?_
        refine go_iloadN (pc' := 28) K d3_27 rfl rfl ?_
        refine go_if_ge_f (pc' := 31) K d3_28 (by decide) rfl ?_
        refine go_iconst (pc' := 32) (v := 0) K d3_31 rfl rfl ?_
        exact go_zret K d3_32 (by decide) (by decide) (Or.inl rfl) (by subst hQ; unfold own_nx3; rw [if_neg (Decidable.not_not.mpr hm2), if_neg (Decidable.not_not.mpr hm1), if_neg (Decidable.not_not.mpr hm0)]; exact ⟨rfl, rfl⟩)
set_option maxRecDepth 65536 in
set_option maxHeartbeats 40000000 in
theorem ct_valid3 (l : Launch) (Z : State) (h0 : Heap) (a0 : Array Value) (hw : ∀ d ∈ tables_1, d.before a0 Z = true) (ds : Hp) (i b : Nat) (n x0 x1 x2 : Int32) (ha : ds[i]? = some (b, ia [x0, x1, x2])) :
    Ct l Z h0 (⟨"com/example/xpath_reasoner/xpathreasoner/reason/InterleavingsNextChoicePinLaw", "valid", "([III)Z"⟩ : MethodName) method_5_code 3 (some .boolean) [] ({ frames := 0, cells := 0, slots := 0, locals := 0 } : Room) #[(.ref b), (.int 3), (.int n)] ds (fun v ds' => v = some (.int (own_vd3 n x0 x1 x2)) ∧ ds' = ds) := by
  refine Ct.of_go (Ls := #[.val (.ref b), .val (.int 3), .val (.int n)]) pf_4 (fun m => by first | (simp [entryFrame, mkF, argsToLocals, Value.category, maxLocals]; done) | rfl) (fun W K => ?_)
  generalize hQ : (fun v ds' => v = some (.int (own_vd3 n x0 x1 x2)) ∧ ds' = ds : Option Value → Hp → Prop) = Q
  refine go_iloadN (pc' := 1) K d4_0 rfl rfl ?_
  refine go_if_ne_t (pc' := 6) K d4_1 (by decide) (by decide) (by decide) ?_
  refine go_aloadN (pc' := 7) K d4_6 rfl rfl rfl ?_
  refine go_iconst (pc' := 8) (v := 0) K d4_7 rfl rfl ?_
  refine go_iaload (pc' := 9) (i := i) (m := 0) (x := x0) K ha d4_8 (by decide) rfl rfl ?_
  refine go_if_ge (pt := 14) (pc' := 12) K d4_9 (by decide) (by decide) rfl (fun (h0 : 0 ≤ x0.toInt) => ?_) (fun (h0 : x0.toInt < 0) => ?_)
  ·
    refine go_iloadN (pc' := 15) K d4_14 rfl rfl ?_
    refine go_iconst (pc' := 16) (v := 1) K d4_15 rfl rfl ?_
    refine go_ic_le_f (pc' := 19) K d4_16 (by decide) rfl ?_
    refine go_aloadN (pc' := 20) K d4_19 rfl rfl rfl ?_
    refine go_iconst (pc' := 21) (v := 0) K d4_20 rfl rfl ?_
    refine go_iaload (pc' := 22) (i := i) (m := 0) (x := x0) K ha d4_21 (by decide) rfl rfl ?_
    refine go_aloadN (pc' := 23) K d4_22 rfl rfl rfl ?_
    refine go_iconst (pc' := 24) (v := 1) K d4_23 rfl rfl ?_
    refine go_iaload (pc' := 25) (i := i) (m := 1) (x := x1) K ha d4_24 (by decide) rfl rfl ?_
    refine go_ic_lt (pt := 30) (pc' := 28) K d4_25 (by decide) (by decide) rfl (fun (h1 : x0.toInt < x1.toInt) => ?_) (fun (h1 : x1.toInt ≤ x0.toInt) => ?_)
    ·
      refine go_iloadN (pc' := 31) K d4_30 rfl rfl ?_
      refine go_iconst (pc' := 32) (v := 2) K d4_31 rfl rfl ?_
      refine go_ic_le_f (pc' := 35) K d4_32 (by decide) rfl ?_
      refine go_aloadN (pc' := 36) K d4_35 rfl rfl rfl ?_
      refine go_iconst (pc' := 37) (v := 1) K d4_36 rfl rfl ?_
      refine go_iaload (pc' := 38) (i := i) (m := 1) (x := x1) K ha d4_37 (by decide) rfl rfl ?_
      refine go_aloadN (pc' := 39) K d4_38 rfl rfl rfl ?_
      refine go_iconst (pc' := 40) (v := 2) K d4_39 rfl rfl ?_
      refine go_iaload (pc' := 41) (i := i) (m := 2) (x := x2) K ha d4_40 (by decide) rfl rfl ?_
      refine go_ic_lt (pt := 46) (pc' := 44) K d4_41 (by decide) (by decide) rfl (fun (h2 : x1.toInt < x2.toInt) => ?_) (fun (h2 : x2.toInt ≤ x1.toInt) => ?_)
      ·
        refine go_aloadN (pc' := 47) K d4_46 rfl rfl rfl ?_
        refine go_iloadN (pc' := 48) K d4_47 rfl rfl ?_
        refine go_iconst (pc' := 49) (v := 1) K d4_48 rfl rfl ?_
        refine go_isub (pc' := 50) K d4_49 rfl ?_
        rw [show ((3 - 1) : Int32) = 2 from by decide]
        refine go_iaload (pc' := 51) (i := i) (m := 2) (x := x2) K ha d4_50 (by decide) rfl rfl ?_
        refine go_iloadN (pc' := 52) K d4_51 rfl rfl ?_
        refine go_ic_ge (pt := 59) (pc' := 55) K d4_52 (by decide) (by decide) rfl (fun (h3 : n.toInt ≤ x2.toInt) => ?_) (fun (h3 : x2.toInt < n.toInt) => ?_)
        ·
          refine go_iconst (pc' := 60) (v := 0) K d4_59 rfl rfl ?_
          exact go_zret K d4_60 (by decide) (by decide) (Or.inl rfl) (by subst hQ; refine ⟨?_, rfl⟩; unfold own_vd3; rw [if_pos h0, if_pos h1, if_pos h2, if_pos h3])
        ·
          refine go_iconst (pc' := 56) (v := 1) K d4_55 rfl rfl ?_
          refine go_goto (pc' := 60) K d4_56 (by decide) (by decide) ?_
          exact go_zret K d4_60 (by decide) (by decide) (Or.inr rfl) (by subst hQ; refine ⟨?_, rfl⟩; unfold own_vd3; rw [if_pos h0, if_pos h1, if_pos h2, if_neg (by omega)])
      ·
        refine go_iconst (pc' := 45) (v := 0) K d4_44 rfl rfl ?_
        exact go_zret K d4_45 (by decide) (by decide) (Or.inl rfl) (by subst hQ; refine ⟨?_, rfl⟩; unfold own_vd3; rw [if_pos h0, if_pos h1, if_neg (by omega)])
    ·
      refine go_iconst (pc' := 29) (v := 0) K d4_28 rfl rfl ?_
      exact go_zret K d4_29 (by decide) (by decide) (Or.inl rfl) (by subst hQ; refine ⟨?_, rfl⟩; unfold own_vd3; rw [if_pos h0, if_neg (by omega)])
  ·
    refine go_iconst (pc' := 13) (v := 0) K d4_12 rfl rfl ?_
    exact go_zret K d4_13 (by decide) (by decide) (Or.inl rfl) (by subst hQ; refine ⟨?_, rfl⟩; unfold own_vd3; rw [if_neg (by omega)])
theorem own_f4 (x : Int32) : ∃ a : Fin 4, x &&& 3 = Int32.ofNat a.val := by
  have e : (x &&& 3).toInt = x.toInt % 2 ^ 2 := Jvm.Kit.i32_mask x 3 (k := 2) (by decide) (by decide)
  rcases ilt4 (x := x &&& 3) (by omega) (by omega) with h | h | h | h
  · exact ⟨0, h⟩
  · exact ⟨1, h⟩
  · exact ⟨2, h⟩
  · exact ⟨3, h⟩
theorem own_f4c (x : Int32) : x &&& 3 = 0 ∨ x &&& 3 = 1 ∨ x &&& 3 = 2 ∨ x &&& 3 = 3 := by
  have e : (x &&& 3).toInt = x.toInt % 2 ^ 2 := Jvm.Kit.i32_mask x 3 (k := 2) (by decide) (by decide)
  exact ilt4 (by omega) (by omega)
set_option maxRecDepth 65536 in
theorem own_F0 : ∀ d : Fin 4, ((own_nx0 (0 + (Int32.ofNat d.val))).1 = 0 → own_rk0 (0 + (Int32.ofNat d.val)) = own_c0 ((0 + (Int32.ofNat d.val))).toInt64 - 1) ∧ ((own_nx0 (0 + (Int32.ofNat d.val))).1 ≠ 0 → (own_rk0 (0 + (Int32.ofNat d.val))).toInt < (own_c0 ((0 + (Int32.ofNat d.val))).toInt64 - 1).toInt ∧ own_vdL (0 + (Int32.ofNat d.val)) (own_nx0 (0 + (Int32.ofNat d.val))).2 = 1 ∧ own_rkL (0 + (Int32.ofNat d.val)) (own_nx0 (0 + (Int32.ofNat d.val))).2 = own_rk0 (0 + (Int32.ofNat d.val)) + 1 ∧ (own_nx0 (0 + (Int32.ofNat d.val))).2.length = 0) := by decide +kernel
theorem own_G0 (p4 : Int32) : ((own_nx0 (0 + (p4 &&& 3))).1 = 0 → own_rk0 (0 + (p4 &&& 3)) = own_c0 ((0 + (p4 &&& 3))).toInt64 - 1) ∧ ((own_nx0 (0 + (p4 &&& 3))).1 ≠ 0 → (own_rk0 (0 + (p4 &&& 3))).toInt < (own_c0 ((0 + (p4 &&& 3))).toInt64 - 1).toInt ∧ own_vdL (0 + (p4 &&& 3)) (own_nx0 (0 + (p4 &&& 3))).2 = 1 ∧ own_rkL (0 + (p4 &&& 3)) (own_nx0 (0 + (p4 &&& 3))).2 = own_rk0 (0 + (p4 &&& 3)) + 1 ∧ (own_nx0 (0 + (p4 &&& 3))).2.length = 0) := by
  obtain ⟨d, ed⟩ := own_f4 p4
  rw [ed]
  exact own_F0 d
set_option maxRecDepth 65536 in
theorem own_F1 : ∀ a d : Fin 4, ((own_nx1 (((Int32.ofNat a.val) + 1) + (Int32.ofNat d.val)) (Int32.ofNat a.val)).1 = 0 → own_rk1 (((Int32.ofNat a.val) + 1) + (Int32.ofNat d.val)) (Int32.ofNat a.val) = own_c1 ((((Int32.ofNat a.val) + 1) + (Int32.ofNat d.val))).toInt64 - 1) ∧ ((own_nx1 (((Int32.ofNat a.val) + 1) + (Int32.ofNat d.val)) (Int32.ofNat a.val)).1 ≠ 0 → (own_rk1 (((Int32.ofNat a.val) + 1) + (Int32.ofNat d.val)) (Int32.ofNat a.val)).toInt < (own_c1 ((((Int32.ofNat a.val) + 1) + (Int32.ofNat d.val))).toInt64 - 1).toInt ∧ own_vdL (((Int32.ofNat a.val) + 1) + (Int32.ofNat d.val)) (own_nx1 (((Int32.ofNat a.val) + 1) + (Int32.ofNat d.val)) (Int32.ofNat a.val)).2 = 1 ∧ own_rkL (((Int32.ofNat a.val) + 1) + (Int32.ofNat d.val)) (own_nx1 (((Int32.ofNat a.val) + 1) + (Int32.ofNat d.val)) (Int32.ofNat a.val)).2 = own_rk1 (((Int32.ofNat a.val) + 1) + (Int32.ofNat d.val)) (Int32.ofNat a.val) + 1 ∧ (own_nx1 (((Int32.ofNat a.val) + 1) + (Int32.ofNat d.val)) (Int32.ofNat a.val)).2.length = 1) := by decide +kernel
theorem own_G1 (p1 p4 : Int32) : ((own_nx1 (((p1 &&& 3) + 1) + (p4 &&& 3)) (p1 &&& 3)).1 = 0 → own_rk1 (((p1 &&& 3) + 1) + (p4 &&& 3)) (p1 &&& 3) = own_c1 ((((p1 &&& 3) + 1) + (p4 &&& 3))).toInt64 - 1) ∧ ((own_nx1 (((p1 &&& 3) + 1) + (p4 &&& 3)) (p1 &&& 3)).1 ≠ 0 → (own_rk1 (((p1 &&& 3) + 1) + (p4 &&& 3)) (p1 &&& 3)).toInt < (own_c1 ((((p1 &&& 3) + 1) + (p4 &&& 3))).toInt64 - 1).toInt ∧ own_vdL (((p1 &&& 3) + 1) + (p4 &&& 3)) (own_nx1 (((p1 &&& 3) + 1) + (p4 &&& 3)) (p1 &&& 3)).2 = 1 ∧ own_rkL (((p1 &&& 3) + 1) + (p4 &&& 3)) (own_nx1 (((p1 &&& 3) + 1) + (p4 &&& 3)) (p1 &&& 3)).2 = own_rk1 (((p1 &&& 3) + 1) + (p4 &&& 3)) (p1 &&& 3) + 1 ∧ (own_nx1 (((p1 &&& 3) + 1) + (p4 &&& 3)) (p1 &&& 3)).2.length = 1) := by
  obtain ⟨a, ea⟩ := own_f4 p1
  obtain ⟨d, ed⟩ := own_f4 p4
  rw [ea, ed]
  exact own_F1 a d
set_option maxRecDepth 65536 in
theorem own_F2 : ∀ a b d : Fin 4, ((own_nx2 (((((Int32.ofNat a.val) + 1) + (Int32.ofNat b.val)) + 1) + (Int32.ofNat d.val)) (Int32.ofNat a.val) (((Int32.ofNat a.val) + 1) + (Int32.ofNat b.val))).1 = 0 → own_rk2 (((((Int32.ofNat a.val) + 1) + (Int32.ofNat b.val)) + 1) + (Int32.ofNat d.val)) (Int32.ofNat a.val) (((Int32.ofNat a.val) + 1) + (Int32.ofNat b.val)) = own_c2 ((((((Int32.ofNat a.val) + 1) + (Int32.ofNat b.val)) + 1) + (Int32.ofNat d.val))).toInt64 - 1) ∧ ((own_nx2 (((((Int32.ofNat a.val) + 1) + (Int32.ofNat b.val)) + 1) + (Int32.ofNat d.val)) (Int32.ofNat a.val) (((Int32.ofNat a.val) + 1) + (Int32.ofNat b.val))).1 ≠ 0 → (own_rk2 (((((Int32.ofNat a.val) + 1) + (Int32.ofNat b.val)) + 1) + (Int32.ofNat d.val)) (Int32.ofNat a.val) (((Int32.ofNat a.val) + 1) + (Int32.ofNat b.val))).toInt < (own_c2 ((((((Int32.ofNat a.val) + 1) + (Int32.ofNat b.val)) + 1) + (Int32.ofNat d.val))).toInt64 - 1).toInt ∧ own_vdL (((((Int32.ofNat a.val) + 1) + (Int32.ofNat b.val)) + 1) + (Int32.ofNat d.val)) (own_nx2 (((((Int32.ofNat a.val) + 1) + (Int32.ofNat b.val)) + 1) + (Int32.ofNat d.val)) (Int32.ofNat a.val) (((Int32.ofNat a.val) + 1) + (Int32.ofNat b.val))).2 = 1 ∧ own_rkL (((((Int32.ofNat a.val) + 1) + (Int32.ofNat b.val)) + 1) + (Int32.ofNat d.val)) (own_nx2 (((((Int32.ofNat a.val) + 1) + (Int32.ofNat b.val)) + 1) + (Int32.ofNat d.val)) (Int32.ofNat a.val) (((Int32.ofNat a.val) + 1) + (Int32.ofNat b.val))).2 = own_rk2 (((((Int32.ofNat a.val) + 1) + (Int32.ofNat b.val)) + 1) + (Int32.ofNat d.val)) (Int32.ofNat a.val) (((Int32.ofNat a.val) + 1) + (Int32.ofNat b.val)) + 1 ∧ (own_nx2 (((((Int32.ofNat a.val) + 1) + (Int32.ofNat b.val)) + 1) + (Int32.ofNat d.val)) (Int32.ofNat a.val) (((Int32.ofNat a.val) + 1) + (Int32.ofNat b.val))).2.length = 2) := by decide +kernel
theorem own_G2 (p1 p2 p4 : Int32) : ((own_nx2 (((((p1 &&& 3) + 1) + (p2 &&& 3)) + 1) + (p4 &&& 3)) (p1 &&& 3) (((p1 &&& 3) + 1) + (p2 &&& 3))).1 = 0 → own_rk2 (((((p1 &&& 3) + 1) + (p2 &&& 3)) + 1) + (p4 &&& 3)) (p1 &&& 3) (((p1 &&& 3) + 1) + (p2 &&& 3)) = own_c2 ((((((p1 &&& 3) + 1) + (p2 &&& 3)) + 1) + (p4 &&& 3))).toInt64 - 1) ∧ ((own_nx2 (((((p1 &&& 3) + 1) + (p2 &&& 3)) + 1) + (p4 &&& 3)) (p1 &&& 3) (((p1 &&& 3) + 1) + (p2 &&& 3))).1 ≠ 0 → (own_rk2 (((((p1 &&& 3) + 1) + (p2 &&& 3)) + 1) + (p4 &&& 3)) (p1 &&& 3) (((p1 &&& 3) + 1) + (p2 &&& 3))).toInt < (own_c2 ((((((p1 &&& 3) + 1) + (p2 &&& 3)) + 1) + (p4 &&& 3))).toInt64 - 1).toInt ∧ own_vdL (((((p1 &&& 3) + 1) + (p2 &&& 3)) + 1) + (p4 &&& 3)) (own_nx2 (((((p1 &&& 3) + 1) + (p2 &&& 3)) + 1) + (p4 &&& 3)) (p1 &&& 3) (((p1 &&& 3) + 1) + (p2 &&& 3))).2 = 1 ∧ own_rkL (((((p1 &&& 3) + 1) + (p2 &&& 3)) + 1) + (p4 &&& 3)) (own_nx2 (((((p1 &&& 3) + 1) + (p2 &&& 3)) + 1) + (p4 &&& 3)) (p1 &&& 3) (((p1 &&& 3) + 1) + (p2 &&& 3))).2 = own_rk2 (((((p1 &&& 3) + 1) + (p2 &&& 3)) + 1) + (p4 &&& 3)) (p1 &&& 3) (((p1 &&& 3) + 1) + (p2 &&& 3)) + 1 ∧ (own_nx2 (((((p1 &&& 3) + 1) + (p2 &&& 3)) + 1) + (p4 &&& 3)) (p1 &&& 3) (((p1 &&& 3) + 1) + (p2 &&& 3))).2.length = 2) := by
  obtain ⟨a, ea⟩ := own_f4 p1
  obtain ⟨b, eb⟩ := own_f4 p2
  obtain ⟨d, ed⟩ := own_f4 p4
  rw [ea, eb, ed]
  exact own_F2 a b d
set_option maxRecDepth 65536 in
theorem own_F3 : ∀ a b c d : Fin 4, ((own_nx3 (((((((Int32.ofNat a.val) + 1) + (Int32.ofNat b.val)) + 1) + (Int32.ofNat c.val)) + 1) + (Int32.ofNat d.val)) (Int32.ofNat a.val) (((Int32.ofNat a.val) + 1) + (Int32.ofNat b.val)) (((((Int32.ofNat a.val) + 1) + (Int32.ofNat b.val)) + 1) + (Int32.ofNat c.val))).1 = 0 → own_rk3 (((((((Int32.ofNat a.val) + 1) + (Int32.ofNat b.val)) + 1) + (Int32.ofNat c.val)) + 1) + (Int32.ofNat d.val)) (Int32.ofNat a.val) (((Int32.ofNat a.val) + 1) + (Int32.ofNat b.val)) (((((Int32.ofNat a.val) + 1) + (Int32.ofNat b.val)) + 1) + (Int32.ofNat c.val)) = own_c3 ((((((((Int32.ofNat a.val) + 1) + (Int32.ofNat b.val)) + 1) + (Int32.ofNat c.val)) + 1) + (Int32.ofNat d.val))).toInt64 - 1) ∧ ((own_nx3 (((((((Int32.ofNat a.val) + 1) + (Int32.ofNat b.val)) + 1) + (Int32.ofNat c.val)) + 1) + (Int32.ofNat d.val)) (Int32.ofNat a.val) (((Int32.ofNat a.val) + 1) + (Int32.ofNat b.val)) (((((Int32.ofNat a.val) + 1) + (Int32.ofNat b.val)) + 1) + (Int32.ofNat c.val))).1 ≠ 0 → (own_rk3 (((((((Int32.ofNat a.val) + 1) + (Int32.ofNat b.val)) + 1) + (Int32.ofNat c.val)) + 1) + (Int32.ofNat d.val)) (Int32.ofNat a.val) (((Int32.ofNat a.val) + 1) + (Int32.ofNat b.val)) (((((Int32.ofNat a.val) + 1) + (Int32.ofNat b.val)) + 1) + (Int32.ofNat c.val))).toInt < (own_c3 ((((((((Int32.ofNat a.val) + 1) + (Int32.ofNat b.val)) + 1) + (Int32.ofNat c.val)) + 1) + (Int32.ofNat d.val))).toInt64 - 1).toInt ∧ own_vdL (((((((Int32.ofNat a.val) + 1) + (Int32.ofNat b.val)) + 1) + (Int32.ofNat c.val)) + 1) + (Int32.ofNat d.val)) (own_nx3 (((((((Int32.ofNat a.val) + 1) + (Int32.ofNat b.val)) + 1) + (Int32.ofNat c.val)) + 1) + (Int32.ofNat d.val)) (Int32.ofNat a.val) (((Int32.ofNat a.val) + 1) + (Int32.ofNat b.val)) (((((Int32.ofNat a.val) + 1) + (Int32.ofNat b.val)) + 1) + (Int32.ofNat c.val))).2 = 1 ∧ own_rkL (((((((Int32.ofNat a.val) + 1) + (Int32.ofNat b.val)) + 1) + (Int32.ofNat c.val)) + 1) + (Int32.ofNat d.val)) (own_nx3 (((((((Int32.ofNat a.val) + 1) + (Int32.ofNat b.val)) + 1) + (Int32.ofNat c.val)) + 1) + (Int32.ofNat d.val)) (Int32.ofNat a.val) (((Int32.ofNat a.val) + 1) + (Int32.ofNat b.val)) (((((Int32.ofNat a.val) + 1) + (Int32.ofNat b.val)) + 1) + (Int32.ofNat c.val))).2 = own_rk3 (((((((Int32.ofNat a.val) + 1) + (Int32.ofNat b.val)) + 1) + (Int32.ofNat c.val)) + 1) + (Int32.ofNat d.val)) (Int32.ofNat a.val) (((Int32.ofNat a.val) + 1) + (Int32.ofNat b.val)) (((((Int32.ofNat a.val) + 1) + (Int32.ofNat b.val)) + 1) + (Int32.ofNat c.val)) + 1 ∧ (own_nx3 (((((((Int32.ofNat a.val) + 1) + (Int32.ofNat b.val)) + 1) + (Int32.ofNat c.val)) + 1) + (Int32.ofNat d.val)) (Int32.ofNat a.val) (((Int32.ofNat a.val) + 1) + (Int32.ofNat b.val)) (((((Int32.ofNat a.val) + 1) + (Int32.ofNat b.val)) + 1) + (Int32.ofNat c.val))).2.length = 3) := by decide +kernel
theorem own_G3 (p1 p2 p3 p4 : Int32) : ((own_nx3 (((((((p1 &&& 3) + 1) + (p2 &&& 3)) + 1) + (p3 &&& 3)) + 1) + (p4 &&& 3)) (p1 &&& 3) (((p1 &&& 3) + 1) + (p2 &&& 3)) (((((p1 &&& 3) + 1) + (p2 &&& 3)) + 1) + (p3 &&& 3))).1 = 0 → own_rk3 (((((((p1 &&& 3) + 1) + (p2 &&& 3)) + 1) + (p3 &&& 3)) + 1) + (p4 &&& 3)) (p1 &&& 3) (((p1 &&& 3) + 1) + (p2 &&& 3)) (((((p1 &&& 3) + 1) + (p2 &&& 3)) + 1) + (p3 &&& 3)) = own_c3 ((((((((p1 &&& 3) + 1) + (p2 &&& 3)) + 1) + (p3 &&& 3)) + 1) + (p4 &&& 3))).toInt64 - 1) ∧ ((own_nx3 (((((((p1 &&& 3) + 1) + (p2 &&& 3)) + 1) + (p3 &&& 3)) + 1) + (p4 &&& 3)) (p1 &&& 3) (((p1 &&& 3) + 1) + (p2 &&& 3)) (((((p1 &&& 3) + 1) + (p2 &&& 3)) + 1) + (p3 &&& 3))).1 ≠ 0 → (own_rk3 (((((((p1 &&& 3) + 1) + (p2 &&& 3)) + 1) + (p3 &&& 3)) + 1) + (p4 &&& 3)) (p1 &&& 3) (((p1 &&& 3) + 1) + (p2 &&& 3)) (((((p1 &&& 3) + 1) + (p2 &&& 3)) + 1) + (p3 &&& 3))).toInt < (own_c3 ((((((((p1 &&& 3) + 1) + (p2 &&& 3)) + 1) + (p3 &&& 3)) + 1) + (p4 &&& 3))).toInt64 - 1).toInt ∧ own_vdL (((((((p1 &&& 3) + 1) + (p2 &&& 3)) + 1) + (p3 &&& 3)) + 1) + (p4 &&& 3)) (own_nx3 (((((((p1 &&& 3) + 1) + (p2 &&& 3)) + 1) + (p3 &&& 3)) + 1) + (p4 &&& 3)) (p1 &&& 3) (((p1 &&& 3) + 1) + (p2 &&& 3)) (((((p1 &&& 3) + 1) + (p2 &&& 3)) + 1) + (p3 &&& 3))).2 = 1 ∧ own_rkL (((((((p1 &&& 3) + 1) + (p2 &&& 3)) + 1) + (p3 &&& 3)) + 1) + (p4 &&& 3)) (own_nx3 (((((((p1 &&& 3) + 1) + (p2 &&& 3)) + 1) + (p3 &&& 3)) + 1) + (p4 &&& 3)) (p1 &&& 3) (((p1 &&& 3) + 1) + (p2 &&& 3)) (((((p1 &&& 3) + 1) + (p2 &&& 3)) + 1) + (p3 &&& 3))).2 = own_rk3 (((((((p1 &&& 3) + 1) + (p2 &&& 3)) + 1) + (p3 &&& 3)) + 1) + (p4 &&& 3)) (p1 &&& 3) (((p1 &&& 3) + 1) + (p2 &&& 3)) (((((p1 &&& 3) + 1) + (p2 &&& 3)) + 1) + (p3 &&& 3)) + 1 ∧ (own_nx3 (((((((p1 &&& 3) + 1) + (p2 &&& 3)) + 1) + (p3 &&& 3)) + 1) + (p4 &&& 3)) (p1 &&& 3) (((p1 &&& 3) + 1) + (p2 &&& 3)) (((((p1 &&& 3) + 1) + (p2 &&& 3)) + 1) + (p3 &&& 3))).2.length = 3) := by
  obtain ⟨a, ea⟩ := own_f4 p1
  obtain ⟨b, eb⟩ := own_f4 p2
  obtain ⟨c, ec⟩ := own_f4 p3
  obtain ⟨d, ed⟩ := own_f4 p4
  rw [ea, eb, ec, ed]
  exact own_F3 a b c d
set_option maxRecDepth 65536 in
set_option maxHeartbeats 40000000 in
theorem law_ct (l : Launch) (Z : State) (h0 : Heap) (a0 : Array Value) (hw : ∀ d ∈ tables_1, d.before a0 Z = true) (p0 p1 p2 p3 p4 : Int32) :
    Ct l Z h0 x code maxLocals ret tables_1 room_1 #[(.int p0), (.int p1), (.int p2), (.int p3), (.int p4)] [] (fun v _ => v = some (.int 1)) := by
  refine Ct.of_go (Ls := #[.val (.int p0), .val (.int p1), .val (.int p2), .val (.int p3), .val (.int p4), .unset, .unset, .unset, .unset, .unset, .unset, .unset, .unset, .unset, .unset, .unset, .unset]) pf_0 (fun m => by first | (simp [entryFrame, mkF, argsToLocals, Value.category, maxLocals]; done) | rfl) (fun W K => ?_)
  generalize hQ : (fun v _ => v = some (.int 1) : Option Value → Hp → Prop) = Q
  refine go_iloadN (pc' := 1) K at_0 rfl rfl ?_
  refine go_iconst (pc' := 2) (v := 3) K at_1 rfl rfl ?_
  refine go_iand (pc' := 3) K at_2 rfl ?_
  generalize hk : (p0 &&& 3) = k
  refine go_istore (pc' := 5) (Ls' := #[.val (.int p0), .val (.int p1), .val (.int p2), .val (.int p3), .val (.int p4), .val (.int k), .unset, .unset, .unset, .unset, .unset, .unset, .unset, .unset, .unset, .unset, .unset]) K at_3 rfl rfl ?_
  have hk4 := own_f4c p0
  rw [hk] at hk4
  refine go_iloadN (pc' := 6) K at_5 rfl rfl ?_
  refine go_iconst (pc' := 7) (v := 3) K at_6 rfl rfl ?_
  refine go_iand (pc' := 8) K at_7 rfl ?_
  generalize hc0 : (p1 &&& 3) = c0
  refine go_istore (pc' := 10) (Ls' := #[.val (.int p0), .val (.int p1), .val (.int p2), .val (.int p3), .val (.int p4), .val (.int k), .val (.int c0), .unset, .unset, .unset, .unset, .unset, .unset, .unset, .unset, .unset, .unset]) K at_8 rfl rfl ?_
  refine go_iload (pc' := 12) K at_10 rfl rfl ?_
  refine go_iconst (pc' := 13) (v := 1) K at_12 rfl rfl ?_
  refine go_iadd (pc' := 14) K at_13 rfl ?_
  refine go_iloadN (pc' := 15) K at_14 rfl rfl ?_
  refine go_iconst (pc' := 16) (v := 3) K at_15 rfl rfl ?_
  refine go_iand (pc' := 17) K at_16 rfl ?_
  refine go_iadd (pc' := 18) K at_17 rfl ?_
  generalize hc1 : ((c0 + 1) + (p2 &&& 3)) = c1
  refine go_istore (pc' := 20) (Ls' := #[.val (.int p0), .val (.int p1), .val (.int p2), .val (.int p3), .val (.int p4), .val (.int k), .val (.int c0), .val (.int c1), .unset, .unset, .unset, .unset, .unset, .unset, .unset, .unset, .unset]) K at_18 rfl rfl ?_
  refine go_iload (pc' := 22) K at_20 rfl rfl ?_
  refine go_iconst (pc' := 23) (v := 1) K at_22 rfl rfl ?_
  refine go_iadd (pc' := 24) K at_23 rfl ?_
  refine go_iloadN (pc' := 25) K at_24 rfl rfl ?_
  refine go_iconst (pc' := 26) (v := 3) K at_25 rfl rfl ?_
  refine go_iand (pc' := 27) K at_26 rfl ?_
  refine go_iadd (pc' := 28) K at_27 rfl ?_
  generalize hc2 : ((c1 + 1) + (p3 &&& 3)) = c2
  refine go_istore (pc' := 30) (Ls' := #[.val (.int p0), .val (.int p1), .val (.int p2), .val (.int p3), .val (.int p4), .val (.int k), .val (.int c0), .val (.int c1), .val (.int c2), .unset, .unset, .unset, .unset, .unset, .unset, .unset, .unset]) K at_28 rfl rfl ?_
  rcases hk4 with rfl | rfl | rfl | rfl
  ·
    refine go_iload (pc' := 32) K at_30 rfl rfl ?_
    refine go_if_ne_f (pc' := 35) K at_32 (by decide) rfl ?_
    refine go_iconst (pc' := 36) (v := 0) K at_35 rfl rfl ?_
    refine go_goto (pc' := 69) K at_36 (by decide) (by decide) ?_
    refine go_istore (pc' := 71) (Ls' := #[.val (.int p0), .val (.int p1), .val (.int p2), .val (.int p3), .val (.int p4), .val (.int 0), .val (.int c0), .val (.int c1), .val (.int c2), .val (.int 0), .unset, .unset, .unset, .unset, .unset, .unset, .unset]) K at_69 rfl rfl ?_
    refine go_iload (pc' := 73) K at_71 rfl rfl ?_
    refine go_iload (pc' := 75) K at_73 rfl rfl ?_
    refine go_iconst (pc' := 76) (v := 3) K at_75 rfl rfl ?_
    refine go_iand (pc' := 77) K at_76 rfl ?_
    refine go_iadd (pc' := 78) K at_77 rfl ?_
    generalize hn : (0 + (p4 &&& 3)) = n
    refine go_istore (pc' := 80) (Ls' := #[.val (.int p0), .val (.int p1), .val (.int p2), .val (.int p3), .val (.int p4), .val (.int 0), .val (.int c0), .val (.int c1), .val (.int c2), .val (.int 0), .val (.int n), .unset, .unset, .unset, .unset, .unset, .unset]) K at_78 rfl rfl ?_
    have F := own_G0 p4
    rw [hn] at F
    refine go_iload (pc' := 82) K at_80 rfl rfl ?_
    refine go_newI (pc' := 84) (m := 0) (cap := 0) K (hw _ (List.mem_of_getElem? (i := 0) rfl)) at_82 (by decide) (by decide) (by decide) (by decide) (by decide) rfl (fun b hgb hlb => ?_)
    show Go W Q [(b, ia [])] 1 0 84 #[.val (.int p0), .val (.int p1), .val (.int p2), .val (.int p3), .val (.int p4), .val (.int 0), .val (.int c0), .val (.int c1), .val (.int c2), .val (.int 0), .val (.int n), .unset, .unset, .unset, .unset, .unset, .unset] [(.ref b)]
    refine go_astore (pc' := 86) (Ls' := #[.val (.int p0), .val (.int p1), .val (.int p2), .val (.int p3), .val (.int p4), .val (.int 0), .val (.int c0), .val (.int c1), .val (.int c2), .val (.int 0), .val (.int n), .val (.ref b), .unset, .unset, .unset, .unset, .unset]) K at_84 rfl rfl rfl ?_
    refine go_iload (pc' := 88) K at_86 rfl rfl ?_
    refine go_if_le_t (pc' := 97) K at_88 (by decide) (by decide) (by decide) ?_
    refine go_iload (pc' := 99) K at_97 rfl rfl ?_
    refine go_iconst (pc' := 100) (v := 1) K at_99 rfl rfl ?_
    refine go_ic_le_t (pc' := 109) K at_100 (by decide) (by decide) (by decide) ?_
    refine go_iload (pc' := 111) K at_109 rfl rfl ?_
    refine go_iconst (pc' := 112) (v := 2) K at_111 rfl rfl ?_
    refine go_ic_le_t (pc' := 121) K at_112 (by decide) (by decide) (by decide) ?_
    refine go_iload (pc' := 123) K at_121 rfl rfl ?_
    refine go_i2l (pc' := 124) K at_123 rfl ?_
    refine go_iload (pc' := 126) K at_124 rfl rfl ?_
    refine go_static (pc' := 129) (Wd := 0) (y' := ⟨"com/example/xpath_reasoner/xpathreasoner/reason/InterleavingsNextChoicePinLaw", "binom", "(JI)J"⟩) (argsL := [(.long n.toInt64), (.int 0)]) (rest := []) K (hw _ (List.mem_of_getElem? (i := 1) rfl)) (hw _ (List.mem_of_getElem? (i := 2) rfl)) (hw _ (List.mem_of_getElem? (i := 3) rfl)) (hw _ (List.mem_of_getElem? (i := 4) rfl)) at_126 (ct_bin0 l Z h0 a0 hw _ n.toInt64) (lenOf pd__JI_J rfl) rfl rfl (by decide) rfl (by decide) (by decide) (by decide) (by decide) rfl ?_
    rintro _ ds' ⟨rfl, hds⟩
    rw [hds]
    show Go W Q [(b, ia [])] 1 0 129 #[.val (.int p0), .val (.int p1), .val (.int p2), .val (.int p3), .val (.int p4), .val (.int 0), .val (.int c0), .val (.int c1), .val (.int c2), .val (.int 0), .val (.int n), .val (.ref b), .unset, .unset, .unset, .unset, .unset] [(.long (own_c0 n.toInt64))]
    refine go_lconst (pc' := 130) (v := 1) K at_129 rfl rfl ?_
    refine go_lsub (pc' := 131) K at_130 rfl ?_
    refine go_lstore (pc' := 133) (Ls' := #[.val (.int p0), .val (.int p1), .val (.int p2), .val (.int p3), .val (.int p4), .val (.int 0), .val (.int c0), .val (.int c1), .val (.int c2), .val (.int 0), .val (.int n), .val (.ref b), .val (.long ((own_c0 n.toInt64) - 1)), .second, .unset, .unset, .unset]) K at_131 rfl rfl ?_
    refine go_aload (pc' := 135) K at_133 rfl rfl rfl ?_
    refine go_iload (pc' := 137) K at_135 rfl rfl ?_
    refine go_iload (pc' := 139) K at_137 rfl rfl ?_
    refine go_static (pc' := 142) (Wd := 0) (y' := ⟨"com/example/xpath_reasoner/xpathreasoner/reason/InterleavingsNextChoicePinLaw", "rank", "([III)J"⟩) (argsL := [(.ref b), (.int 0), (.int n)]) (rest := []) K (hw _ (List.mem_of_getElem? (i := 5) rfl)) (hw _ (List.mem_of_getElem? (i := 6) rfl)) (hw _ (List.mem_of_getElem? (i := 3) rfl)) (hw _ (List.mem_of_getElem? (i := 7) rfl)) at_139 (ct_rank0 l Z h0 a0 hw _ 0 b n rfl) (lenOf pd___III_J rfl) rfl rfl (by decide) rfl (by decide) (by decide) (by decide) (by decide) rfl ?_
    rintro _ ds' ⟨rfl, hds⟩
    rw [hds]
    show Go W Q [(b, ia [])] 1 0 142 #[.val (.int p0), .val (.int p1), .val (.int p2), .val (.int p3), .val (.int p4), .val (.int 0), .val (.int c0), .val (.int c1), .val (.int c2), .val (.int 0), .val (.int n), .val (.ref b), .val (.long ((own_c0 n.toInt64) - 1)), .second, .unset, .unset, .unset] [(.long (own_rk0 n))]
    refine go_lstore (pc' := 144) (Ls' := #[.val (.int p0), .val (.int p1), .val (.int p2), .val (.int p3), .val (.int p4), .val (.int 0), .val (.int c0), .val (.int c1), .val (.int c2), .val (.int 0), .val (.int n), .val (.ref b), .val (.long ((own_c0 n.toInt64) - 1)), .second, .val (.long (own_rk0 n)), .second, .unset]) K at_142 rfl rfl ?_
    refine go_aload (pc' := 146) K at_144 rfl rfl rfl ?_
    refine go_iload (pc' := 148) K at_146 rfl rfl ?_
    refine go_static (pc' := 151) (Wd := 0) (y' := ⟨"com/example/xpath_reasoner/xpathreasoner/reason/Interleavings", "nextChoice", "([II)Z"⟩) (argsL := [(.ref b), (.int n)]) (rest := []) K (hw _ (List.mem_of_getElem? (i := 8) rfl)) (hw _ (List.mem_of_getElem? (i := 9) rfl)) (hw _ (List.mem_of_getElem? (i := 10) rfl)) (hw _ (List.mem_of_getElem? (i := 11) rfl)) at_148 (ct_next0 l Z h0 a0 hw b n) (lenOf pd___II_Z rfl) rfl rfl (by decide) rfl (by decide) (by decide) (by decide) (by decide) rfl ?_
    rintro _ ds' ⟨rfl, hds⟩
    rw [hds]
    show Go W Q [(b, ia [])] 1 0 151 #[.val (.int p0), .val (.int p1), .val (.int p2), .val (.int p3), .val (.int p4), .val (.int 0), .val (.int c0), .val (.int c1), .val (.int c2), .val (.int 0), .val (.int n), .val (.ref b), .val (.long ((own_c0 n.toInt64) - 1)), .second, .val (.long (own_rk0 n)), .second, .unset] [(.int 0)]
    refine go_istore (pc' := 153) (Ls' := #[.val (.int p0), .val (.int p1), .val (.int p2), .val (.int p3), .val (.int p4), .val (.int 0), .val (.int c0), .val (.int c1), .val (.int c2), .val (.int 0), .val (.int n), .val (.ref b), .val (.long ((own_c0 n.toInt64) - 1)), .second, .val (.long (own_rk0 n)), .second, .val (.int 0)]) K at_151 rfl rfl ?_
    refine go_iload (pc' := 155) K at_153 rfl rfl ?_
    refine go_if_ne_f (pc' := 158) K at_155 (by decide) rfl ?_
    refine go_lload (pc' := 160) K at_158 rfl rfl ?_
    refine go_lload (pc' := 162) K at_160 rfl rfl ?_
    refine go_ll_ne_f (pc' := 166) K at_162 rfl at_163 (F.1 rfl) rfl ?_
    refine go_iconst (pc' := 167) (v := 1) K at_166 rfl rfl ?_
    refine go_goto (pc' := 171) K at_167 (by decide) (by decide) ?_
    exact go_zret K at_171 (by decide) (by decide) (Or.inr rfl) (by subst hQ; rfl)
  ·
    refine go_iload (pc' := 32) K at_30 rfl rfl ?_
    refine go_if_ne_t (pc' := 39) K at_32 (by decide) (by decide) (by decide) ?_
    refine go_iload (pc' := 41) K at_39 rfl rfl ?_
    refine go_iconst (pc' := 42) (v := 1) K at_41 rfl rfl ?_
    refine go_ic_ne_f (pc' := 45) K at_42 (by decide) rfl ?_
    refine go_iload (pc' := 47) K at_45 rfl rfl ?_
    refine go_iconst (pc' := 48) (v := 1) K at_47 rfl rfl ?_
    refine go_iadd (pc' := 49) K at_48 rfl ?_
    refine go_goto (pc' := 69) K at_49 (by decide) (by decide) ?_
    generalize htop : (c0 + 1) = top
    refine go_istore (pc' := 71) (Ls' := #[.val (.int p0), .val (.int p1), .val (.int p2), .val (.int p3), .val (.int p4), .val (.int 1), .val (.int c0), .val (.int c1), .val (.int c2), .val (.int top), .unset, .unset, .unset, .unset, .unset, .unset, .unset]) K at_69 rfl rfl ?_
    refine go_iload (pc' := 73) K at_71 rfl rfl ?_
    refine go_iload (pc' := 75) K at_73 rfl rfl ?_
    refine go_iconst (pc' := 76) (v := 3) K at_75 rfl rfl ?_
    refine go_iand (pc' := 77) K at_76 rfl ?_
    refine go_iadd (pc' := 78) K at_77 rfl ?_
    generalize hn : (top + (p4 &&& 3)) = n
    refine go_istore (pc' := 80) (Ls' := #[.val (.int p0), .val (.int p1), .val (.int p2), .val (.int p3), .val (.int p4), .val (.int 1), .val (.int c0), .val (.int c1), .val (.int c2), .val (.int top), .val (.int n), .unset, .unset, .unset, .unset, .unset, .unset]) K at_78 rfl rfl ?_
    have F := own_G1 p1 p4
    rw [hc0, htop, hn] at F
    refine go_iload (pc' := 82) K at_80 rfl rfl ?_
    refine go_newI (pc' := 84) (m := 1) (cap := 1) K (hw _ (List.mem_of_getElem? (i := 0) rfl)) at_82 (by decide) (by decide) (by decide) (by decide) (by decide) rfl (fun b hgb hlb => ?_)
    show Go W Q [(b, ia [0])] 1 1 84 #[.val (.int p0), .val (.int p1), .val (.int p2), .val (.int p3), .val (.int p4), .val (.int 1), .val (.int c0), .val (.int c1), .val (.int c2), .val (.int top), .val (.int n), .unset, .unset, .unset, .unset, .unset, .unset] [(.ref b)]
    refine go_astore (pc' := 86) (Ls' := #[.val (.int p0), .val (.int p1), .val (.int p2), .val (.int p3), .val (.int p4), .val (.int 1), .val (.int c0), .val (.int c1), .val (.int c2), .val (.int top), .val (.int n), .val (.ref b), .unset, .unset, .unset, .unset, .unset]) K at_84 rfl rfl rfl ?_
    refine go_iload (pc' := 88) K at_86 rfl rfl ?_
    refine go_if_le_f (pc' := 91) K at_88 (by decide) rfl ?_
    refine go_aload (pc' := 93) K at_91 rfl rfl rfl ?_
    refine go_iconst (pc' := 94) (v := 0) K at_93 rfl rfl ?_
    refine go_iload (pc' := 96) K at_94 rfl rfl ?_
    refine go_iastore (pc' := 97) (i := 0) (m := 0) (ds' := [(b, ia [c0])]) K rfl at_96 (by decide) (by simp) rfl rfl ?_
    refine go_iload (pc' := 99) K at_97 rfl rfl ?_
    refine go_iconst (pc' := 100) (v := 1) K at_99 rfl rfl ?_
    refine go_ic_le_t (pc' := 109) K at_100 (by decide) (by decide) (by decide) ?_
    refine go_iload (pc' := 111) K at_109 rfl rfl ?_
    refine go_iconst (pc' := 112) (v := 2) K at_111 rfl rfl ?_
    refine go_ic_le_t (pc' := 121) K at_112 (by decide) (by decide) (by decide) ?_
    refine go_iload (pc' := 123) K at_121 rfl rfl ?_
    refine go_i2l (pc' := 124) K at_123 rfl ?_
    refine go_iload (pc' := 126) K at_124 rfl rfl ?_
    refine go_static (pc' := 129) (Wd := 0) (y' := ⟨"com/example/xpath_reasoner/xpathreasoner/reason/InterleavingsNextChoicePinLaw", "binom", "(JI)J"⟩) (argsL := [(.long n.toInt64), (.int 1)]) (rest := []) K (hw _ (List.mem_of_getElem? (i := 1) rfl)) (hw _ (List.mem_of_getElem? (i := 2) rfl)) (hw _ (List.mem_of_getElem? (i := 3) rfl)) (hw _ (List.mem_of_getElem? (i := 4) rfl)) at_126 (ct_bin1 l Z h0 a0 hw _ n.toInt64) (lenOf pd__JI_J rfl) rfl rfl (by decide) rfl (by decide) (by decide) (by decide) (by decide) rfl ?_
    rintro _ ds' ⟨rfl, hds⟩
    rw [hds]
    show Go W Q [(b, ia [c0])] 1 1 129 #[.val (.int p0), .val (.int p1), .val (.int p2), .val (.int p3), .val (.int p4), .val (.int 1), .val (.int c0), .val (.int c1), .val (.int c2), .val (.int top), .val (.int n), .val (.ref b), .unset, .unset, .unset, .unset, .unset] [(.long (own_c1 n.toInt64))]
    refine go_lconst (pc' := 130) (v := 1) K at_129 rfl rfl ?_
    refine go_lsub (pc' := 131) K at_130 rfl ?_
    refine go_lstore (pc' := 133) (Ls' := #[.val (.int p0), .val (.int p1), .val (.int p2), .val (.int p3), .val (.int p4), .val (.int 1), .val (.int c0), .val (.int c1), .val (.int c2), .val (.int top), .val (.int n), .val (.ref b), .val (.long ((own_c1 n.toInt64) - 1)), .second, .unset, .unset, .unset]) K at_131 rfl rfl ?_
    refine go_aload (pc' := 135) K at_133 rfl rfl rfl ?_
    refine go_iload (pc' := 137) K at_135 rfl rfl ?_
    refine go_iload (pc' := 139) K at_137 rfl rfl ?_
    refine go_static (pc' := 142) (Wd := 0) (y' := ⟨"com/example/xpath_reasoner/xpathreasoner/reason/InterleavingsNextChoicePinLaw", "rank", "([III)J"⟩) (argsL := [(.ref b), (.int 1), (.int n)]) (rest := []) K (hw _ (List.mem_of_getElem? (i := 5) rfl)) (hw _ (List.mem_of_getElem? (i := 6) rfl)) (hw _ (List.mem_of_getElem? (i := 3) rfl)) (hw _ (List.mem_of_getElem? (i := 7) rfl)) at_139 (ct_rank1 l Z h0 a0 hw _ 0 b n c0 rfl) (lenOf pd___III_J rfl) rfl rfl (by decide) rfl (by decide) (by decide) (by decide) (by decide) rfl ?_
    rintro _ ds' ⟨rfl, hds⟩
    rw [hds]
    show Go W Q [(b, ia [c0])] 1 1 142 #[.val (.int p0), .val (.int p1), .val (.int p2), .val (.int p3), .val (.int p4), .val (.int 1), .val (.int c0), .val (.int c1), .val (.int c2), .val (.int top), .val (.int n), .val (.ref b), .val (.long ((own_c1 n.toInt64) - 1)), .second, .unset, .unset, .unset] [(.long (own_rk1 n c0))]
    refine go_lstore (pc' := 144) (Ls' := #[.val (.int p0), .val (.int p1), .val (.int p2), .val (.int p3), .val (.int p4), .val (.int 1), .val (.int c0), .val (.int c1), .val (.int c2), .val (.int top), .val (.int n), .val (.ref b), .val (.long ((own_c1 n.toInt64) - 1)), .second, .val (.long (own_rk1 n c0)), .second, .unset]) K at_142 rfl rfl ?_
    refine go_aload (pc' := 146) K at_144 rfl rfl rfl ?_
    refine go_iload (pc' := 148) K at_146 rfl rfl ?_
    refine go_static (pc' := 151) (Wd := 0) (y' := ⟨"com/example/xpath_reasoner/xpathreasoner/reason/Interleavings", "nextChoice", "([II)Z"⟩) (argsL := [(.ref b), (.int n)]) (rest := []) K (hw _ (List.mem_of_getElem? (i := 8) rfl)) (hw _ (List.mem_of_getElem? (i := 9) rfl)) (hw _ (List.mem_of_getElem? (i := 10) rfl)) (hw _ (List.mem_of_getElem? (i := 11) rfl)) at_148 (ct_next1 l Z h0 a0 hw b n c0) (lenOf pd___II_Z rfl) rfl rfl (by decide) rfl (by decide) (by decide) (by decide) (by decide) rfl ?_
    rintro _ ds' ⟨rfl, hds⟩
    rw [hds]
    show Go W Q [(b, ia (own_nx1 n c0).2)] 1 1 151 #[.val (.int p0), .val (.int p1), .val (.int p2), .val (.int p3), .val (.int p4), .val (.int 1), .val (.int c0), .val (.int c1), .val (.int c2), .val (.int top), .val (.int n), .val (.ref b), .val (.long ((own_c1 n.toInt64) - 1)), .second, .val (.long (own_rk1 n c0)), .second, .unset] [(.int ((own_nx1 n c0).1))]
    generalize hmv : (own_nx1 n c0).1 = mv
    refine go_istore (pc' := 153) (Ls' := #[.val (.int p0), .val (.int p1), .val (.int p2), .val (.int p3), .val (.int p4), .val (.int 1), .val (.int c0), .val (.int c1), .val (.int c2), .val (.int top), .val (.int n), .val (.ref b), .val (.long ((own_c1 n.toInt64) - 1)), .second, .val (.long (own_rk1 n c0)), .second, .val (.int mv)]) K at_151 rfl rfl ?_
    rw [hmv] at F
    refine go_iload (pc' := 155) K at_153 rfl rfl ?_
    refine go_if_ne (pt := 172) (pc' := 158) K at_155 (by decide) (by decide) rfl (fun (hmz : mv ≠ 0) => ?_) (fun (hmz : mv = 0) => ?_)
    ·
      obtain ⟨F1, F2, F3, F4⟩ := F.2 hmz
      obtain ⟨y0, hy⟩ : ∃ y0 : Int32, (own_nx1 n c0).2 = [y0] := by
        generalize (own_nx1 n c0).2 = L at F4 ⊢
        match L, F4 with
        | [y0], _ => exact ⟨y0, rfl⟩
      rw [hy] at F2 F3
      rw [hy]
      refine go_lload (pc' := 174) K at_172 rfl rfl ?_
      refine go_lload (pc' := 176) K at_174 rfl rfl ?_
      refine go_ll_ge_f (pc' := 180) K at_176 rfl at_177 F1 rfl ?_
      refine go_aload (pc' := 182) K at_180 rfl rfl rfl ?_
      refine go_iload (pc' := 184) K at_182 rfl rfl ?_
      refine go_iload (pc' := 186) K at_184 rfl rfl ?_
      refine go_static (pc' := 189) (Wd := 0) (y' := ⟨"com/example/xpath_reasoner/xpathreasoner/reason/InterleavingsNextChoicePinLaw", "valid", "([III)Z"⟩) (argsL := [(.ref b), (.int 1), (.int n)]) (rest := []) K (hw _ (List.mem_of_getElem? (i := 14) rfl)) (hw _ (List.mem_of_getElem? (i := 15) rfl)) (hw _ (List.mem_of_getElem? (i := 3) rfl)) (hw _ (List.mem_of_getElem? (i := 16) rfl)) at_186 (ct_valid1 l Z h0 a0 hw _ 0 b n y0 rfl) (lenOf pd___III_Z rfl) rfl rfl (by decide) rfl (by decide) (by decide) (by decide) (by decide) rfl ?_
      rintro _ ds' ⟨rfl, hds⟩
      rw [hds]
      show Go W Q [(b, ia [y0])] 1 1 189 #[.val (.int p0), .val (.int p1), .val (.int p2), .val (.int p3), .val (.int p4), .val (.int 1), .val (.int c0), .val (.int c1), .val (.int c2), .val (.int top), .val (.int n), .val (.ref b), .val (.long ((own_c1 n.toInt64) - 1)), .second, .val (.long (own_rk1 n c0)), .second, .val (.int mv)] [(.int (own_vd1 n y0))]
      refine go_if_eq_f (pc' := 192) K at_189 (by have e : own_vd1 n y0 = 1 := F2; rw [e]; decide) rfl ?_
      refine go_aload (pc' := 194) K at_192 rfl rfl rfl ?_
      refine go_iload (pc' := 196) K at_194 rfl rfl ?_
      refine go_iload (pc' := 198) K at_196 rfl rfl ?_
      refine go_static (pc' := 201) (Wd := 0) (y' := ⟨"com/example/xpath_reasoner/xpathreasoner/reason/InterleavingsNextChoicePinLaw", "rank", "([III)J"⟩) (argsL := [(.ref b), (.int 1), (.int n)]) (rest := []) K (hw _ (List.mem_of_getElem? (i := 5) rfl)) (hw _ (List.mem_of_getElem? (i := 6) rfl)) (hw _ (List.mem_of_getElem? (i := 3) rfl)) (hw _ (List.mem_of_getElem? (i := 7) rfl)) at_198 (ct_rank1 l Z h0 a0 hw _ 0 b n y0 rfl) (lenOf pd___III_J rfl) rfl rfl (by decide) rfl (by decide) (by decide) (by decide) (by decide) rfl ?_
      rintro _ ds' ⟨rfl, hds⟩
      rw [hds]
      show Go W Q [(b, ia [y0])] 1 1 201 #[.val (.int p0), .val (.int p1), .val (.int p2), .val (.int p3), .val (.int p4), .val (.int 1), .val (.int c0), .val (.int c1), .val (.int c2), .val (.int top), .val (.int n), .val (.ref b), .val (.long ((own_c1 n.toInt64) - 1)), .second, .val (.long (own_rk1 n c0)), .second, .val (.int mv)] [(.long (own_rk1 n y0))]
      refine go_lload (pc' := 203) K at_201 rfl rfl ?_
      refine go_lconst (pc' := 204) (v := 1) K at_203 rfl rfl ?_
      refine go_ladd (pc' := 205) K at_204 rfl ?_
      refine go_ll_ne_f (pc' := 209) K at_205 rfl at_206 F3 rfl ?_
      refine go_iconst (pc' := 210) (v := 1) K at_209 rfl rfl ?_
      refine go_goto (pc' := 214) K at_210 (by decide) (by decide) ?_
      exact go_zret K at_214 (by decide) (by decide) (Or.inr rfl) (by subst hQ; rfl)
    ·
      refine go_lload (pc' := 160) K at_158 rfl rfl ?_
      refine go_lload (pc' := 162) K at_160 rfl rfl ?_
      refine go_ll_ne_f (pc' := 166) K at_162 rfl at_163 (F.1 hmz) rfl ?_
      refine go_iconst (pc' := 167) (v := 1) K at_166 rfl rfl ?_
      refine go_goto (pc' := 171) K at_167 (by decide) (by decide) ?_
      exact go_zret K at_171 (by decide) (by decide) (Or.inr rfl) (by subst hQ; rfl)
  ·
    refine go_iload (pc' := 32) K at_30 rfl rfl ?_
    refine go_if_ne_t (pc' := 39) K at_32 (by decide) (by decide) (by decide) ?_
    refine go_iload (pc' := 41) K at_39 rfl rfl ?_
    refine go_iconst (pc' := 42) (v := 1) K at_41 rfl rfl ?_
    refine go_ic_ne_t (pc' := 52) K at_42 (by decide) (by decide) (by decide) ?_
    refine go_iload (pc' := 54) K at_52 rfl rfl ?_
    refine go_iconst (pc' := 55) (v := 2) K at_54 rfl rfl ?_
    refine go_ic_ne_f (pc' := 58) K at_55 (by decide) rfl ?_
    refine go_iload (pc' := 60) K at_58 rfl rfl ?_
    refine go_iconst (pc' := 61) (v := 1) K at_60 rfl rfl ?_
    refine go_iadd (pc' := 62) K at_61 rfl ?_
    refine go_goto (pc' := 69) K at_62 (by decide) (by decide) ?_
    generalize htop : (c1 + 1) = top
    refine go_istore (pc' := 71) (Ls' := #[.val (.int p0), .val (.int p1), .val (.int p2), .val (.int p3), .val (.int p4), .val (.int 2), .val (.int c0), .val (.int c1), .val (.int c2), .val (.int top), .unset, .unset, .unset, .unset, .unset, .unset, .unset]) K at_69 rfl rfl ?_
    refine go_iload (pc' := 73) K at_71 rfl rfl ?_
    refine go_iload (pc' := 75) K at_73 rfl rfl ?_
    refine go_iconst (pc' := 76) (v := 3) K at_75 rfl rfl ?_
    refine go_iand (pc' := 77) K at_76 rfl ?_
    refine go_iadd (pc' := 78) K at_77 rfl ?_
    generalize hn : (top + (p4 &&& 3)) = n
    refine go_istore (pc' := 80) (Ls' := #[.val (.int p0), .val (.int p1), .val (.int p2), .val (.int p3), .val (.int p4), .val (.int 2), .val (.int c0), .val (.int c1), .val (.int c2), .val (.int top), .val (.int n), .unset, .unset, .unset, .unset, .unset, .unset]) K at_78 rfl rfl ?_
    have F := own_G2 p1 p2 p4
    rw [hc0, hc1, htop, hn] at F
    refine go_iload (pc' := 82) K at_80 rfl rfl ?_
    refine go_newI (pc' := 84) (m := 2) (cap := 2) K (hw _ (List.mem_of_getElem? (i := 0) rfl)) at_82 (by decide) (by decide) (by decide) (by decide) (by decide) rfl (fun b hgb hlb => ?_)
    show Go W Q [(b, ia [0, 0])] 1 2 84 #[.val (.int p0), .val (.int p1), .val (.int p2), .val (.int p3), .val (.int p4), .val (.int 2), .val (.int c0), .val (.int c1), .val (.int c2), .val (.int top), .val (.int n), .unset, .unset, .unset, .unset, .unset, .unset] [(.ref b)]
    refine go_astore (pc' := 86) (Ls' := #[.val (.int p0), .val (.int p1), .val (.int p2), .val (.int p3), .val (.int p4), .val (.int 2), .val (.int c0), .val (.int c1), .val (.int c2), .val (.int top), .val (.int n), .val (.ref b), .unset, .unset, .unset, .unset, .unset]) K at_84 rfl rfl rfl ?_
    refine go_iload (pc' := 88) K at_86 rfl rfl ?_
    refine go_if_le_f (pc' := 91) K at_88 (by decide) rfl ?_
    refine go_aload (pc' := 93) K at_91 rfl rfl rfl ?_
    refine go_iconst (pc' := 94) (v := 0) K at_93 rfl rfl ?_
    refine go_iload (pc' := 96) K at_94 rfl rfl ?_
    refine go_iastore (pc' := 97) (i := 0) (m := 0) (ds' := [(b, ia [c0, 0])]) K rfl at_96 (by decide) (by simp) rfl rfl ?_
    refine go_iload (pc' := 99) K at_97 rfl rfl ?_
    refine go_iconst (pc' := 100) (v := 1) K at_99 rfl rfl ?_
    refine go_ic_le_f (pc' := 103) K at_100 (by decide) rfl ?_
    refine go_aload (pc' := 105) K at_103 rfl rfl rfl ?_
    refine go_iconst (pc' := 106) (v := 1) K at_105 rfl rfl ?_
    refine go_iload (pc' := 108) K at_106 rfl rfl ?_
    refine go_iastore (pc' := 109) (i := 0) (m := 1) (ds' := [(b, ia [c0, c1])]) K rfl at_108 (by decide) (by simp) rfl rfl ?_
    refine go_iload (pc' := 111) K at_109 rfl rfl ?_
    refine go_iconst (pc' := 112) (v := 2) K at_111 rfl rfl ?_
    refine go_ic_le_t (pc' := 121) K at_112 (by decide) (by decide) (by decide) ?_
    refine go_iload (pc' := 123) K at_121 rfl rfl ?_
    refine go_i2l (pc' := 124) K at_123 rfl ?_
    refine go_iload (pc' := 126) K at_124 rfl rfl ?_
    refine go_static (pc' := 129) (Wd := 0) (y' := ⟨"com/example/xpath_reasoner/xpathreasoner/reason/InterleavingsNextChoicePinLaw", "binom", "(JI)J"⟩) (argsL := [(.long n.toInt64), (.int 2)]) (rest := []) K (hw _ (List.mem_of_getElem? (i := 1) rfl)) (hw _ (List.mem_of_getElem? (i := 2) rfl)) (hw _ (List.mem_of_getElem? (i := 3) rfl)) (hw _ (List.mem_of_getElem? (i := 4) rfl)) at_126 (ct_bin2 l Z h0 a0 hw _ n.toInt64) (lenOf pd__JI_J rfl) rfl rfl (by decide) rfl (by decide) (by decide) (by decide) (by decide) rfl ?_
    rintro _ ds' ⟨rfl, hds⟩
    rw [hds]
    show Go W Q [(b, ia [c0, c1])] 1 2 129 #[.val (.int p0), .val (.int p1), .val (.int p2), .val (.int p3), .val (.int p4), .val (.int 2), .val (.int c0), .val (.int c1), .val (.int c2), .val (.int top), .val (.int n), .val (.ref b), .unset, .unset, .unset, .unset, .unset] [(.long (own_c2 n.toInt64))]
    refine go_lconst (pc' := 130) (v := 1) K at_129 rfl rfl ?_
    refine go_lsub (pc' := 131) K at_130 rfl ?_
    refine go_lstore (pc' := 133) (Ls' := #[.val (.int p0), .val (.int p1), .val (.int p2), .val (.int p3), .val (.int p4), .val (.int 2), .val (.int c0), .val (.int c1), .val (.int c2), .val (.int top), .val (.int n), .val (.ref b), .val (.long ((own_c2 n.toInt64) - 1)), .second, .unset, .unset, .unset]) K at_131 rfl rfl ?_
    refine go_aload (pc' := 135) K at_133 rfl rfl rfl ?_
    refine go_iload (pc' := 137) K at_135 rfl rfl ?_
    refine go_iload (pc' := 139) K at_137 rfl rfl ?_
    refine go_static (pc' := 142) (Wd := 0) (y' := ⟨"com/example/xpath_reasoner/xpathreasoner/reason/InterleavingsNextChoicePinLaw", "rank", "([III)J"⟩) (argsL := [(.ref b), (.int 2), (.int n)]) (rest := []) K (hw _ (List.mem_of_getElem? (i := 5) rfl)) (hw _ (List.mem_of_getElem? (i := 6) rfl)) (hw _ (List.mem_of_getElem? (i := 3) rfl)) (hw _ (List.mem_of_getElem? (i := 7) rfl)) at_139 (ct_rank2 l Z h0 a0 hw _ 0 b n c0 c1 rfl) (lenOf pd___III_J rfl) rfl rfl (by decide) rfl (by decide) (by decide) (by decide) (by decide) rfl ?_
    rintro _ ds' ⟨rfl, hds⟩
    rw [hds]
    show Go W Q [(b, ia [c0, c1])] 1 2 142 #[.val (.int p0), .val (.int p1), .val (.int p2), .val (.int p3), .val (.int p4), .val (.int 2), .val (.int c0), .val (.int c1), .val (.int c2), .val (.int top), .val (.int n), .val (.ref b), .val (.long ((own_c2 n.toInt64) - 1)), .second, .unset, .unset, .unset] [(.long (own_rk2 n c0 c1))]
    refine go_lstore (pc' := 144) (Ls' := #[.val (.int p0), .val (.int p1), .val (.int p2), .val (.int p3), .val (.int p4), .val (.int 2), .val (.int c0), .val (.int c1), .val (.int c2), .val (.int top), .val (.int n), .val (.ref b), .val (.long ((own_c2 n.toInt64) - 1)), .second, .val (.long (own_rk2 n c0 c1)), .second, .unset]) K at_142 rfl rfl ?_
    refine go_aload (pc' := 146) K at_144 rfl rfl rfl ?_
    refine go_iload (pc' := 148) K at_146 rfl rfl ?_
    refine go_static (pc' := 151) (Wd := 0) (y' := ⟨"com/example/xpath_reasoner/xpathreasoner/reason/Interleavings", "nextChoice", "([II)Z"⟩) (argsL := [(.ref b), (.int n)]) (rest := []) K (hw _ (List.mem_of_getElem? (i := 8) rfl)) (hw _ (List.mem_of_getElem? (i := 9) rfl)) (hw _ (List.mem_of_getElem? (i := 10) rfl)) (hw _ (List.mem_of_getElem? (i := 11) rfl)) at_148 (ct_next2 l Z h0 a0 hw b n c0 c1) (lenOf pd___II_Z rfl) rfl rfl (by decide) rfl (by decide) (by decide) (by decide) (by decide) rfl ?_
    rintro _ ds' ⟨rfl, hds⟩
    rw [hds]
    show Go W Q [(b, ia (own_nx2 n c0 c1).2)] 1 2 151 #[.val (.int p0), .val (.int p1), .val (.int p2), .val (.int p3), .val (.int p4), .val (.int 2), .val (.int c0), .val (.int c1), .val (.int c2), .val (.int top), .val (.int n), .val (.ref b), .val (.long ((own_c2 n.toInt64) - 1)), .second, .val (.long (own_rk2 n c0 c1)), .second, .unset] [(.int ((own_nx2 n c0 c1).1))]
    generalize hmv : (own_nx2 n c0 c1).1 = mv
    refine go_istore (pc' := 153) (Ls' := #[.val (.int p0), .val (.int p1), .val (.int p2), .val (.int p3), .val (.int p4), .val (.int 2), .val (.int c0), .val (.int c1), .val (.int c2), .val (.int top), .val (.int n), .val (.ref b), .val (.long ((own_c2 n.toInt64) - 1)), .second, .val (.long (own_rk2 n c0 c1)), .second, .val (.int mv)]) K at_151 rfl rfl ?_
    rw [hmv] at F
    refine go_iload (pc' := 155) K at_153 rfl rfl ?_
    refine go_if_ne (pt := 172) (pc' := 158) K at_155 (by decide) (by decide) rfl (fun (hmz : mv ≠ 0) => ?_) (fun (hmz : mv = 0) => ?_)
    ·
      obtain ⟨F1, F2, F3, F4⟩ := F.2 hmz
      obtain ⟨y0, y1, hy⟩ : ∃ y0 y1 : Int32, (own_nx2 n c0 c1).2 = [y0, y1] := by
        generalize (own_nx2 n c0 c1).2 = L at F4 ⊢
        match L, F4 with
        | [y0, y1], _ => exact ⟨y0, y1, rfl⟩
      rw [hy] at F2 F3
      rw [hy]
      refine go_lload (pc' := 174) K at_172 rfl rfl ?_
      refine go_lload (pc' := 176) K at_174 rfl rfl ?_
      refine go_ll_ge_f (pc' := 180) K at_176 rfl at_177 F1 rfl ?_
      refine go_aload (pc' := 182) K at_180 rfl rfl rfl ?_
      refine go_iload (pc' := 184) K at_182 rfl rfl ?_
      refine go_iload (pc' := 186) K at_184 rfl rfl ?_
      refine go_static (pc' := 189) (Wd := 0) (y' := ⟨"com/example/xpath_reasoner/xpathreasoner/reason/InterleavingsNextChoicePinLaw", "valid", "([III)Z"⟩) (argsL := [(.ref b), (.int 2), (.int n)]) (rest := []) K (hw _ (List.mem_of_getElem? (i := 14) rfl)) (hw _ (List.mem_of_getElem? (i := 15) rfl)) (hw _ (List.mem_of_getElem? (i := 3) rfl)) (hw _ (List.mem_of_getElem? (i := 16) rfl)) at_186 (ct_valid2 l Z h0 a0 hw _ 0 b n y0 y1 rfl) (lenOf pd___III_Z rfl) rfl rfl (by decide) rfl (by decide) (by decide) (by decide) (by decide) rfl ?_
      rintro _ ds' ⟨rfl, hds⟩
      rw [hds]
      show Go W Q [(b, ia [y0, y1])] 1 2 189 #[.val (.int p0), .val (.int p1), .val (.int p2), .val (.int p3), .val (.int p4), .val (.int 2), .val (.int c0), .val (.int c1), .val (.int c2), .val (.int top), .val (.int n), .val (.ref b), .val (.long ((own_c2 n.toInt64) - 1)), .second, .val (.long (own_rk2 n c0 c1)), .second, .val (.int mv)] [(.int (own_vd2 n y0 y1))]
      refine go_if_eq_f (pc' := 192) K at_189 (by have e : own_vd2 n y0 y1 = 1 := F2; rw [e]; decide) rfl ?_
      refine go_aload (pc' := 194) K at_192 rfl rfl rfl ?_
      refine go_iload (pc' := 196) K at_194 rfl rfl ?_
      refine go_iload (pc' := 198) K at_196 rfl rfl ?_
      refine go_static (pc' := 201) (Wd := 0) (y' := ⟨"com/example/xpath_reasoner/xpathreasoner/reason/InterleavingsNextChoicePinLaw", "rank", "([III)J"⟩) (argsL := [(.ref b), (.int 2), (.int n)]) (rest := []) K (hw _ (List.mem_of_getElem? (i := 5) rfl)) (hw _ (List.mem_of_getElem? (i := 6) rfl)) (hw _ (List.mem_of_getElem? (i := 3) rfl)) (hw _ (List.mem_of_getElem? (i := 7) rfl)) at_198 (ct_rank2 l Z h0 a0 hw _ 0 b n y0 y1 rfl) (lenOf pd___III_J rfl) rfl rfl (by decide) rfl (by decide) (by decide) (by decide) (by decide) rfl ?_
      rintro _ ds' ⟨rfl, hds⟩
      rw [hds]
      show Go W Q [(b, ia [y0, y1])] 1 2 201 #[.val (.int p0), .val (.int p1), .val (.int p2), .val (.int p3), .val (.int p4), .val (.int 2), .val (.int c0), .val (.int c1), .val (.int c2), .val (.int top), .val (.int n), .val (.ref b), .val (.long ((own_c2 n.toInt64) - 1)), .second, .val (.long (own_rk2 n c0 c1)), .second, .val (.int mv)] [(.long (own_rk2 n y0 y1))]
      refine go_lload (pc' := 203) K at_201 rfl rfl ?_
      refine go_lconst (pc' := 204) (v := 1) K at_203 rfl rfl ?_
      refine go_ladd (pc' := 205) K at_204 rfl ?_
      refine go_ll_ne_f (pc' := 209) K at_205 rfl at_206 F3 rfl ?_
      refine go_iconst (pc' := 210) (v := 1) K at_209 rfl rfl ?_
      refine go_goto (pc' := 214) K at_210 (by decide) (by decide) ?_
      exact go_zret K at_214 (by decide) (by decide) (Or.inr rfl) (by subst hQ; rfl)
    ·
      refine go_lload (pc' := 160) K at_158 rfl rfl ?_
      refine go_lload (pc' := 162) K at_160 rfl rfl ?_
      refine go_ll_ne_f (pc' := 166) K at_162 rfl at_163 (F.1 hmz) rfl ?_
      refine go_iconst (pc' := 167) (v := 1) K at_166 rfl rfl ?_
      refine go_goto (pc' := 171) K at_167 (by decide) (by decide) ?_
      exact go_zret K at_171 (by decide) (by decide) (Or.inr rfl) (by subst hQ; rfl)
  ·
    refine go_iload (pc' := 32) K at_30 rfl rfl ?_
    refine go_if_ne_t (pc' := 39) K at_32 (by decide) (by decide) (by decide) ?_
    refine go_iload (pc' := 41) K at_39 rfl rfl ?_
    refine go_iconst (pc' := 42) (v := 1) K at_41 rfl rfl ?_
    refine go_ic_ne_t (pc' := 52) K at_42 (by decide) (by decide) (by decide) ?_
    refine go_iload (pc' := 54) K at_52 rfl rfl ?_
    refine go_iconst (pc' := 55) (v := 2) K at_54 rfl rfl ?_
    refine go_ic_ne_t (pc' := 65) K at_55 (by decide) (by decide) (by decide) ?_
    refine go_iload (pc' := 67) K at_65 rfl rfl ?_
    refine go_iconst (pc' := 68) (v := 1) K at_67 rfl rfl ?_
    refine go_iadd (pc' := 69) K at_68 rfl ?_
    generalize htop : (c2 + 1) = top
    refine go_istore (pc' := 71) (Ls' := #[.val (.int p0), .val (.int p1), .val (.int p2), .val (.int p3), .val (.int p4), .val (.int 3), .val (.int c0), .val (.int c1), .val (.int c2), .val (.int top), .unset, .unset, .unset, .unset, .unset, .unset, .unset]) K at_69 rfl rfl ?_
    refine go_iload (pc' := 73) K at_71 rfl rfl ?_
    refine go_iload (pc' := 75) K at_73 rfl rfl ?_
    refine go_iconst (pc' := 76) (v := 3) K at_75 rfl rfl ?_
    refine go_iand (pc' := 77) K at_76 rfl ?_
    refine go_iadd (pc' := 78) K at_77 rfl ?_
    generalize hn : (top + (p4 &&& 3)) = n
    refine go_istore (pc' := 80) (Ls' := #[.val (.int p0), .val (.int p1), .val (.int p2), .val (.int p3), .val (.int p4), .val (.int 3), .val (.int c0), .val (.int c1), .val (.int c2), .val (.int top), .val (.int n), .unset, .unset, .unset, .unset, .unset, .unset]) K at_78 rfl rfl ?_
    have F := own_G3 p1 p2 p3 p4
    rw [hc0, hc1, hc2, htop, hn] at F
    refine go_iload (pc' := 82) K at_80 rfl rfl ?_
    refine go_newI (pc' := 84) (m := 3) (cap := 3) K (hw _ (List.mem_of_getElem? (i := 0) rfl)) at_82 (by decide) (by decide) (by decide) (by decide) (by decide) rfl (fun b hgb hlb => ?_)
    show Go W Q [(b, ia [0, 0, 0])] 1 3 84 #[.val (.int p0), .val (.int p1), .val (.int p2), .val (.int p3), .val (.int p4), .val (.int 3), .val (.int c0), .val (.int c1), .val (.int c2), .val (.int top), .val (.int n), .unset, .unset, .unset, .unset, .unset, .unset] [(.ref b)]
    refine go_astore (pc' := 86) (Ls' := #[.val (.int p0), .val (.int p1), .val (.int p2), .val (.int p3), .val (.int p4), .val (.int 3), .val (.int c0), .val (.int c1), .val (.int c2), .val (.int top), .val (.int n), .val (.ref b), .unset, .unset, .unset, .unset, .unset]) K at_84 rfl rfl rfl ?_
    refine go_iload (pc' := 88) K at_86 rfl rfl ?_
    refine go_if_le_f (pc' := 91) K at_88 (by decide) rfl ?_
    refine go_aload (pc' := 93) K at_91 rfl rfl rfl ?_
    refine go_iconst (pc' := 94) (v := 0) K at_93 rfl rfl ?_
    refine go_iload (pc' := 96) K at_94 rfl rfl ?_
    refine go_iastore (pc' := 97) (i := 0) (m := 0) (ds' := [(b, ia [c0, 0, 0])]) K rfl at_96 (by decide) (by simp) rfl rfl ?_
    refine go_iload (pc' := 99) K at_97 rfl rfl ?_
    refine go_iconst (pc' := 100) (v := 1) K at_99 rfl rfl ?_
    refine go_ic_le_f (pc' := 103) K at_100 (by decide) rfl ?_
    refine go_aload (pc' := 105) K at_103 rfl rfl rfl ?_
    refine go_iconst (pc' := 106) (v := 1) K at_105 rfl rfl ?_
    refine go_iload (pc' := 108) K at_106 rfl rfl ?_
    refine go_iastore (pc' := 109) (i := 0) (m := 1) (ds' := [(b, ia [c0, c1, 0])]) K rfl at_108 (by decide) (by simp) rfl rfl ?_
    refine go_iload (pc' := 111) K at_109 rfl rfl ?_
    refine go_iconst (pc' := 112) (v := 2) K at_111 rfl rfl ?_
    refine go_ic_le_f (pc' := 115) K at_112 (by decide) rfl ?_
    refine go_aload (pc' := 117) K at_115 rfl rfl rfl ?_
    refine go_iconst (pc' := 118) (v := 2) K at_117 rfl rfl ?_
    refine go_iload (pc' := 120) K at_118 rfl rfl ?_
    refine go_iastore (pc' := 121) (i := 0) (m := 2) (ds' := [(b, ia [c0, c1, c2])]) K rfl at_120 (by decide) (by simp) rfl rfl ?_
    refine go_iload (pc' := 123) K at_121 rfl rfl ?_
    refine go_i2l (pc' := 124) K at_123 rfl ?_
    refine go_iload (pc' := 126) K at_124 rfl rfl ?_
    refine go_static (pc' := 129) (Wd := 0) (y' := ⟨"com/example/xpath_reasoner/xpathreasoner/reason/InterleavingsNextChoicePinLaw", "binom", "(JI)J"⟩) (argsL := [(.long n.toInt64), (.int 3)]) (rest := []) K (hw _ (List.mem_of_getElem? (i := 1) rfl)) (hw _ (List.mem_of_getElem? (i := 2) rfl)) (hw _ (List.mem_of_getElem? (i := 3) rfl)) (hw _ (List.mem_of_getElem? (i := 4) rfl)) at_126 (ct_bin3 l Z h0 a0 hw _ n.toInt64) (lenOf pd__JI_J rfl) rfl rfl (by decide) rfl (by decide) (by decide) (by decide) (by decide) rfl ?_
    rintro _ ds' ⟨rfl, hds⟩
    rw [hds]
    show Go W Q [(b, ia [c0, c1, c2])] 1 3 129 #[.val (.int p0), .val (.int p1), .val (.int p2), .val (.int p3), .val (.int p4), .val (.int 3), .val (.int c0), .val (.int c1), .val (.int c2), .val (.int top), .val (.int n), .val (.ref b), .unset, .unset, .unset, .unset, .unset] [(.long (own_c3 n.toInt64))]
    refine go_lconst (pc' := 130) (v := 1) K at_129 rfl rfl ?_
    refine go_lsub (pc' := 131) K at_130 rfl ?_
    refine go_lstore (pc' := 133) (Ls' := #[.val (.int p0), .val (.int p1), .val (.int p2), .val (.int p3), .val (.int p4), .val (.int 3), .val (.int c0), .val (.int c1), .val (.int c2), .val (.int top), .val (.int n), .val (.ref b), .val (.long ((own_c3 n.toInt64) - 1)), .second, .unset, .unset, .unset]) K at_131 rfl rfl ?_
    refine go_aload (pc' := 135) K at_133 rfl rfl rfl ?_
    refine go_iload (pc' := 137) K at_135 rfl rfl ?_
    refine go_iload (pc' := 139) K at_137 rfl rfl ?_
    refine go_static (pc' := 142) (Wd := 0) (y' := ⟨"com/example/xpath_reasoner/xpathreasoner/reason/InterleavingsNextChoicePinLaw", "rank", "([III)J"⟩) (argsL := [(.ref b), (.int 3), (.int n)]) (rest := []) K (hw _ (List.mem_of_getElem? (i := 5) rfl)) (hw _ (List.mem_of_getElem? (i := 6) rfl)) (hw _ (List.mem_of_getElem? (i := 3) rfl)) (hw _ (List.mem_of_getElem? (i := 7) rfl)) at_139 (ct_rank3 l Z h0 a0 hw _ 0 b n c0 c1 c2 rfl) (lenOf pd___III_J rfl) rfl rfl (by decide) rfl (by decide) (by decide) (by decide) (by decide) rfl ?_
    rintro _ ds' ⟨rfl, hds⟩
    rw [hds]
    show Go W Q [(b, ia [c0, c1, c2])] 1 3 142 #[.val (.int p0), .val (.int p1), .val (.int p2), .val (.int p3), .val (.int p4), .val (.int 3), .val (.int c0), .val (.int c1), .val (.int c2), .val (.int top), .val (.int n), .val (.ref b), .val (.long ((own_c3 n.toInt64) - 1)), .second, .unset, .unset, .unset] [(.long (own_rk3 n c0 c1 c2))]
    refine go_lstore (pc' := 144) (Ls' := #[.val (.int p0), .val (.int p1), .val (.int p2), .val (.int p3), .val (.int p4), .val (.int 3), .val (.int c0), .val (.int c1), .val (.int c2), .val (.int top), .val (.int n), .val (.ref b), .val (.long ((own_c3 n.toInt64) - 1)), .second, .val (.long (own_rk3 n c0 c1 c2)), .second, .unset]) K at_142 rfl rfl ?_
    refine go_aload (pc' := 146) K at_144 rfl rfl rfl ?_
    refine go_iload (pc' := 148) K at_146 rfl rfl ?_
    refine go_static (pc' := 151) (Wd := 0) (y' := ⟨"com/example/xpath_reasoner/xpathreasoner/reason/Interleavings", "nextChoice", "([II)Z"⟩) (argsL := [(.ref b), (.int n)]) (rest := []) K (hw _ (List.mem_of_getElem? (i := 8) rfl)) (hw _ (List.mem_of_getElem? (i := 9) rfl)) (hw _ (List.mem_of_getElem? (i := 10) rfl)) (hw _ (List.mem_of_getElem? (i := 11) rfl)) at_148 (ct_next3 l Z h0 a0 hw b n c0 c1 c2) (lenOf pd___II_Z rfl) rfl rfl (by decide) rfl (by decide) (by decide) (by decide) (by decide) rfl ?_
    rintro _ ds' ⟨rfl, hds⟩
    rw [hds]
    show Go W Q [(b, ia (own_nx3 n c0 c1 c2).2)] 1 3 151 #[.val (.int p0), .val (.int p1), .val (.int p2), .val (.int p3), .val (.int p4), .val (.int 3), .val (.int c0), .val (.int c1), .val (.int c2), .val (.int top), .val (.int n), .val (.ref b), .val (.long ((own_c3 n.toInt64) - 1)), .second, .val (.long (own_rk3 n c0 c1 c2)), .second, .unset] [(.int ((own_nx3 n c0 c1 c2).1))]
    generalize hmv : (own_nx3 n c0 c1 c2).1 = mv
    refine go_istore (pc' := 153) (Ls' := #[.val (.int p0), .val (.int p1), .val (.int p2), .val (.int p3), .val (.int p4), .val (.int 3), .val (.int c0), .val (.int c1), .val (.int c2), .val (.int top), .val (.int n), .val (.ref b), .val (.long ((own_c3 n.toInt64) - 1)), .second, .val (.long (own_rk3 n c0 c1 c2)), .second, .val (.int mv)]) K at_151 rfl rfl ?_
    rw [hmv] at F
    refine go_iload (pc' := 155) K at_153 rfl rfl ?_
    refine go_if_ne (pt := 172) (pc' := 158) K at_155 (by decide) (by decide) rfl (fun (hmz : mv ≠ 0) => ?_) (fun (hmz : mv = 0) => ?_)
    ·
      obtain ⟨F1, F2, F3, F4⟩ := F.2 hmz
      obtain ⟨y0, y1, y2, hy⟩ : ∃ y0 y1 y2 : Int32, (own_nx3 n c0 c1 c2).2 = [y0, y1, y2] := by
        generalize (own_nx3 n c0 c1 c2).2 = L at F4 ⊢
        match L, F4 with
        | [y0, y1, y2], _ => exact ⟨y0, y1, y2, rfl⟩
      rw [hy] at F2 F3
      rw [hy]
      refine go_lload (pc' := 174) K at_172 rfl rfl ?_
      refine go_lload (pc' := 176) K at_174 rfl rfl ?_
      refine go_ll_ge_f (pc' := 180) K at_176 rfl at_177 F1 rfl ?_
      refine go_aload (pc' := 182) K at_180 rfl rfl rfl ?_
      refine go_iload (pc' := 184) K at_182 rfl rfl ?_
      refine go_iload (pc' := 186) K at_184 rfl rfl ?_
      refine go_static (pc' := 189) (Wd := 0) (y' := ⟨"com/example/xpath_reasoner/xpathreasoner/reason/InterleavingsNextChoicePinLaw", "valid", "([III)Z"⟩) (argsL := [(.ref b), (.int 3), (.int n)]) (rest := []) K (hw _ (List.mem_of_getElem? (i := 14) rfl)) (hw _ (List.mem_of_getElem? (i := 15) rfl)) (hw _ (List.mem_of_getElem? (i := 3) rfl)) (hw _ (List.mem_of_getElem? (i := 16) rfl)) at_186 (ct_valid3 l Z h0 a0 hw _ 0 b n y0 y1 y2 rfl) (lenOf pd___III_Z rfl) rfl rfl (by decide) rfl (by decide) (by decide) (by decide) (by decide) rfl ?_
      rintro _ ds' ⟨rfl, hds⟩
      rw [hds]
      show Go W Q [(b, ia [y0, y1, y2])] 1 3 189 #[.val (.int p0), .val (.int p1), .val (.int p2), .val (.int p3), .val (.int p4), .val (.int 3), .val (.int c0), .val (.int c1), .val (.int c2), .val (.int top), .val (.int n), .val (.ref b), .val (.long ((own_c3 n.toInt64) - 1)), .second, .val (.long (own_rk3 n c0 c1 c2)), .second, .val (.int mv)] [(.int (own_vd3 n y0 y1 y2))]
      refine go_if_eq_f (pc' := 192) K at_189 (by have e : own_vd3 n y0 y1 y2 = 1 := F2; rw [e]; decide) rfl ?_
      refine go_aload (pc' := 194) K at_192 rfl rfl rfl ?_
      refine go_iload (pc' := 196) K at_194 rfl rfl ?_
      refine go_iload (pc' := 198) K at_196 rfl rfl ?_
      refine go_static (pc' := 201) (Wd := 0) (y' := ⟨"com/example/xpath_reasoner/xpathreasoner/reason/InterleavingsNextChoicePinLaw", "rank", "([III)J"⟩) (argsL := [(.ref b), (.int 3), (.int n)]) (rest := []) K (hw _ (List.mem_of_getElem? (i := 5) rfl)) (hw _ (List.mem_of_getElem? (i := 6) rfl)) (hw _ (List.mem_of_getElem? (i := 3) rfl)) (hw _ (List.mem_of_getElem? (i := 7) rfl)) at_198 (ct_rank3 l Z h0 a0 hw _ 0 b n y0 y1 y2 rfl) (lenOf pd___III_J rfl) rfl rfl (by decide) rfl (by decide) (by decide) (by decide) (by decide) rfl ?_
      rintro _ ds' ⟨rfl, hds⟩
      rw [hds]
      show Go W Q [(b, ia [y0, y1, y2])] 1 3 201 #[.val (.int p0), .val (.int p1), .val (.int p2), .val (.int p3), .val (.int p4), .val (.int 3), .val (.int c0), .val (.int c1), .val (.int c2), .val (.int top), .val (.int n), .val (.ref b), .val (.long ((own_c3 n.toInt64) - 1)), .second, .val (.long (own_rk3 n c0 c1 c2)), .second, .val (.int mv)] [(.long (own_rk3 n y0 y1 y2))]
      refine go_lload (pc' := 203) K at_201 rfl rfl ?_
      refine go_lconst (pc' := 204) (v := 1) K at_203 rfl rfl ?_
      refine go_ladd (pc' := 205) K at_204 rfl ?_
      refine go_ll_ne_f (pc' := 209) K at_205 rfl at_206 F3 rfl ?_
      refine go_iconst (pc' := 210) (v := 1) K at_209 rfl rfl ?_
      refine go_goto (pc' := 214) K at_210 (by decide) (by decide) ?_
      exact go_zret K at_214 (by decide) (by decide) (Or.inr rfl) (by subst hQ; rfl)
    ·
      refine go_lload (pc' := 160) K at_158 rfl rfl ?_
      refine go_lload (pc' := 162) K at_160 rfl rfl ?_
      refine go_ll_ne_f (pc' := 166) K at_162 rfl at_163 (F.1 hmz) rfl ?_
      refine go_iconst (pc' := 167) (v := 1) K at_166 rfl rfl ?_
      refine go_goto (pc' := 171) K at_167 (by decide) (by decide) ?_
      exact go_zret K at_171 (by decide) (by decide) (Or.inr rfl) (by subst hQ; rfl)
  
set_option maxRecDepth 65536 in
set_option maxHeartbeats 40000000 in
theorem comes_1 {Post : Tables → Env → Array Value → State → Outcome → State → Prop} (hpost : ∀ tb e args s v u, (limb_1_1.after args s (.returned v) u = true ∧ limb_1_2.after args s (.returned v) u = true ∧ True) → FrameEnd s (.returned v) u (Jvm.fieldLocs frame_1_writes args s ++ Jvm.arrayLocs frame_1_arrays args s ++ Jvm.staticLocs frame_1_statics s) 16 128 → Post tb e args s (.returned v) u) :
    ArmFor flags0 classFile x code maxLocals ret World_1 tables_1 room_1 Calls_1 rest_1 Pre_1 Post := by
  intro l hfl _ _ p e ha hc hk s m args below hf hA hF happ hP
  obtain ⟨hcalls, hrest, hpre⟩ := hP
  obtain ⟨-, -, -, hnamed, -, -, -, hat⟩ := (Spec.applies_iff hf).mp happ
  obtain ⟨hg, hn⟩ := and_e (Cond.before_iff.mp (show (Jvm.Cond.and given_1 narrow_1).before args s = true from hpre))
  obtain ⟨hcount, g0⟩ := and_e hg
  obtain ⟨q0, g1⟩ := and_e g0
  obtain ⟨q1, g2⟩ := and_e g1
  obtain ⟨q2, g3⟩ := and_e g2
  obtain ⟨q3, g4⟩ := and_e g3
  obtain ⟨w0, w1, w2, w3, w4, rfl⟩ : ∃ w0 w1 w2 w3 w4 : Value, args = #[w0, w1, w2, w3, w4] := by
    have hs : args.size = 5 := by simpa [Cond.value, given_1] using hcount
    obtain ⟨L⟩ := args
    match L, hs with
    | [w0, w1, w2, w3, w4], _ => exact ⟨w0, w1, w2, w3, w4, rfl⟩
  have hw := fun d (hd : d ∈ tables_1) => atoms_spec (ws := Jvm.Cond.code x code maxLocals ret :: tables_1) hat d (List.mem_cons_of_mem _ hd)
  obtain ⟨i0, e0⟩ := is_v q0
  obtain rfl : w0 = (.int i0) := Option.some.inj e0
  obtain ⟨i1, e1⟩ := is_v q1
  obtain rfl : w1 = (.int i1) := Option.some.inj e1
  obtain ⟨i2, e2⟩ := is_v q2
  obtain rfl : w2 = (.int i2) := Option.some.inj e2
  obtain ⟨i3, e3⟩ := is_v q3
  obtain rfl : w3 = (.int i3) := Option.some.inj e3
  obtain ⟨i4, e4⟩ := is_v g4
  obtain rfl : w4 = (.int i4) := Option.some.inj e4
  obtain ⟨n, o, h1, h2, h3, v, L, rfl, ⟨N, ds', -, rfl⟩, hq⟩ := law_ct l s s.heap _ hw i0 i1 i2 i3 i4  s.heap (HL.nil s s.heap) p e ha hc hk s m _ below hf ((Spec.applies_iff_loose hf).mp happ).1 ⟨rfl, State.Warmed39.refl s, rfl⟩ trivial
  refine ⟨n, _, h1, h2, h3, hpost _ _ _ _ _ _ ⟨Cond.after_iff.mpr rfl, Cond.after_iff.mpr (eq_i res_at (Term.int_eval (1)) rfl), trivial⟩ ⟨hq.1, hq.2.1, (hq.2.2.sift fun y hy => Or.inr (N y hy)).mono (by decide) (by decide)⟩⟩
theorem main_1_1 : Claimed_1_1 := comes_1 fun _ _ _ _ _ _ h hF => ⟨h.1, hF⟩
theorem main_1_2 : Claimed_1_2 := comes_1 fun _ _ _ _ _ _ h hF => ⟨h.2.1, hF⟩
end Jvm.Pilot.@@N@@
namespace Jvm.Pilot.@@N@@
open Jvm Jvm.ClassFile Sem Op Lib Jvm.Free Jvm.Stand Jvm.Pilot.@@N@@.Jvm.D
/-! MADE BY PROGRAM (witnessworld.py) out of the Statement's table words and the real class files: 9 classes; the members and pool entries that the words name. The judged class is class 1, her method 1. -/
namespace start1
open Jvm.ClassFile
def u (s : String) : CpInfo := .utf8 (stringToUtf16 s)
/-- a pool by its gaps: so many unusable entries, then the entry; so many at the end -/
def gap : Nat → List CpInfo → List CpInfo
  | 0, r => r
  | n + 1, r => .unusable :: gap n r
def poolList (es : List (Nat × CpInfo)) (last : Nat) : List CpInfo := es.foldr (fun e r => gap e.1 (e.2 :: r)) (gap last [])
def pool (es : List (Nat × CpInfo)) (last : Nat) : Array CpInfo := ⟨poolList es last⟩
def fileOf (pool : Array CpInfo) (this : Nat) (attrs : Array Attribute := #[]) (ms : Array MethodInfo := #[]) (fl : Nat := 33) (sup : Nat := 0) (ifs : Array Nat := #[]) (fds : Array FieldInfo := #[]) : ClassFile where
  minorVersion := 0
  majorVersion := 65
  constantPool := pool
  accessFlags := fl
  thisClass := this
  superClass := sup
  interfaces := ifs
  fields := fds
  methods := ms
  attributes := attrs
def plain (name : String) (sup : Option ClassId) : Class where
  name := name
  kind := .ordinary
  loader := none
  accessFlags := 33
  super := sup
  interfaces := #[]
  cf := none
  fields := #[]
  methods := #[]
  instanceTypes := #[]
  staticTypes := #[]
  resolved := #[]
  callSites := []
  init := .initialized
  statics := none
  mirror := none

def pool0 : Array CpInfo := pool [(5, u "<init>"), (0, u "()V"), (1, .class_ 10), (1, u "java/lang/Object")] 113

def k0m0 : Method := { name := "<init>", desc := "()V", sig := { parameters := [], returnType := none }, accessFlags := 1, code := none }
/-- java/lang/Object -/
def k0 : Class := { plain "java/lang/Object" none with
  accessFlags := 33
  interfaces := #[]
  cf := some (fileOf pool0 8 #[] #[{ accessFlags := 1, nameIndex := 5, descriptorIndex := 6, attributes := #[] }] 33 0 #[] #[])
  fields := #[]
  methods := #[k0m0]
  instanceTypes := #[]
  staticTypes := #[]
  resolved := Array.replicate 124 none
  statics := none }

def pool1 : Array CpInfo := pool [(2, .class_ 4), (1, u "java/lang/Object"), (0, u "<init>"), (0, u "()V"), (0, .methodref 8 9), (0, .class_ 10), (0, .nameAndType 11 12), (0, u "com/example/xpath_reasoner/xpathreasoner/reason/InterleavingsNextChoicePinLaw"), (0, u "binom"), (0, u "(JI)J"), (0, .methodref 8 14), (0, .nameAndType 15 16), (0, u "rank"), (0, u "([III)J"), (0, .methodref 18 19), (0, .class_ 20), (0, .nameAndType 21 22), (0, u "com/example/xpath_reasoner/xpathreasoner/reason/Interleavings"), (0, u "nextChoice"), (0, u "([II)Z"), (0, .methodref 8 24), (0, .nameAndType 25 26), (0, u "valid"), (0, u "([III)Z"), (0, .long 2), (1, .long 6), (3, u "law"), (0, u "(IIIII)Z")] 5

def k1m0 : Method := { name := "<init>", desc := "()V", sig := { parameters := [], returnType := none }, accessFlags := 1, code := none }
def k1c1 : Code := { maxStack := 6, maxLocals := 17, code := code, exceptionTable := #[], attributes := #[] }
def k1m1 : Method := { name := "law", desc := "(IIIII)Z", sig := { parameters := [.int, .int, .int, .int, .int], returnType := some .boolean }, accessFlags := 9, code := some k1c1 }
def k1c2 : Code := { maxStack := 6, maxLocals := 3, code := method_3_code, exceptionTable := #[], attributes := #[] }
def k1m2 : Method := { name := "binom", desc := "(JI)J", sig := { parameters := [.long, .int], returnType := some .long }, accessFlags := 10, code := some k1c2 }
def k1c3 : Code := { maxStack := 6, maxLocals := 5, code := method_4_code, exceptionTable := #[], attributes := #[] }
def k1m3 : Method := { name := "rank", desc := "([III)J", sig := { parameters := [(.array .int), .int, .int], returnType := some .long }, accessFlags := 10, code := some k1c3 }
def k1c4 : Code := { maxStack := 3, maxLocals := 3, code := method_5_code, exceptionTable := #[], attributes := #[] }
def k1m4 : Method := { name := "valid", desc := "([III)Z", sig := { parameters := [(.array .int), .int, .int], returnType := some .boolean }, accessFlags := 10, code := some k1c4 }
/-- com/example/xpath_reasoner/xpathreasoner/reason/InterleavingsNextChoicePinLaw -/
def k1 : Class := { plain "com/example/xpath_reasoner/xpathreasoner/reason/InterleavingsNextChoicePinLaw" (some 0) with
  accessFlags := 49
  interfaces := #[]
  cf := some (fileOf pool1 8 #[] #[{ accessFlags := 1, nameIndex := 5, descriptorIndex := 6, attributes := #[] }, { accessFlags := 9, nameIndex := 33, descriptorIndex := 34, attributes := #[] }, { accessFlags := 10, nameIndex := 11, descriptorIndex := 12, attributes := #[] }, { accessFlags := 10, nameIndex := 15, descriptorIndex := 16, attributes := #[] }, { accessFlags := 10, nameIndex := 25, descriptorIndex := 26, attributes := #[] }] 49 2 #[] #[])
  fields := #[]
  methods := #[k1m0, k1m1, k1m2, k1m3, k1m4]
  instanceTypes := #[]
  staticTypes := #[]
  resolved := Array.replicate 40 none
  statics := none }

def pool2 : Array CpInfo := pool [(4, .class_ 6), (1, u "java/lang/Object"), (6, .class_ 15), (1, u "com/example/xpath_reasoner/xpathreasoner/reason/Interleavings"), (0, u "branches"), (0, u "Ljava/util/List;"), (34, u "path"), (10, u "gapName"), (3, u "Ljava/lang/String;"), (18, u "nothing"), (0, u "Lcom/example/xpath_reasoner/xpathreasoner/model/Pattern;"), (8, u "childEdgesLeft"), (0, u "[[Z"), (10, u "tailsAgree"), (3, u "Z"), (130, .class_ 245), (1, u "com/example/xpath_reasoner/xpathreasoner/reason/Interleavings$Settled"), (17, .class_ 265), (1, u "com/example/xpath_reasoner/xpathreasoner/reason/Interleavings$Shown"), (52, .class_ 319), (0, u "com/example/xpath_reasoner/xpathreasoner/reason/Interleavings$Position"), (6, .class_ 327), (0, u "com/example/xpath_reasoner/xpathreasoner/reason/Interleavings$Levels"), (30, .class_ 359), (0, u "com/example/xpath_reasoner/xpathreasoner/reason/Interleavings$PoolBase"), (56, .class_ 417), (0, u "com/example/xpath_reasoner/xpathreasoner/reason/Interleavings$Frame"), (53, .class_ 473), (1, u "com/example/xpath_reasoner/xpathreasoner/reason/Interleavings$Examples"), (1, .class_ 476), (0, u "com/example/xpath_reasoner/xpathreasoner/reason/Interleavings$Search"), (12, u "REDUNDANCY_LIMIT"), (0, u "J"), (1, u "NODE_COST"), (0, u "DEAD_POSITION_COST"), (13, u "nextChoice"), (0, u "([II)Z"), (23, .class_ 533), (0, u "com/example/xpath_reasoner/xpathreasoner/reason/Interleavings$Pool")] 44

def k2c0 : Code := { maxStack := 5, maxLocals := 4, code := prog_135_method_12_code, exceptionTable := #[], attributes := #[] }
def k2m0 : Method := { name := "nextChoice", desc := "([II)Z", sig := { parameters := [(.array .int), .int], returnType := some .boolean }, accessFlags := 8, code := some k2c0 }
/-- com/example/xpath_reasoner/xpathreasoner/reason/Interleavings -/
def k2 : Class := { plain "com/example/xpath_reasoner/xpathreasoner/reason/Interleavings" (some 0) with
  accessFlags := 32
  interfaces := #[]
  cf := some (fileOf pool2 13 #[.nestMembers #[416, 326, 532, 358, 475, 318, 243, 263, 471]] #[{ accessFlags := 8, nameIndex := 507, descriptorIndex := 508, attributes := #[] }] 32 4 #[] #[{ accessFlags := 26, nameIndex := 489, descriptorIndex := 490, attributes := #[] }, { accessFlags := 24, nameIndex := 492, descriptorIndex := 490, attributes := #[] }, { accessFlags := 26, nameIndex := 493, descriptorIndex := 490, attributes := #[] }, { accessFlags := 18, nameIndex := 16, descriptorIndex := 17, attributes := #[] }, { accessFlags := 18, nameIndex := 52, descriptorIndex := 17, attributes := #[] }, { accessFlags := 18, nameIndex := 63, descriptorIndex := 67, attributes := #[] }, { accessFlags := 18, nameIndex := 86, descriptorIndex := 87, attributes := #[] }, { accessFlags := 18, nameIndex := 96, descriptorIndex := 97, attributes := #[] }, { accessFlags := 18, nameIndex := 108, descriptorIndex := 112, attributes := #[] }])
  fields := #[{ name := "REDUNDANCY_LIMIT", type := .long, accessFlags := 26, slot := 0, constantValue := 0 }, { name := "NODE_COST", type := .long, accessFlags := 24, slot := 1, constantValue := 0 }, { name := "DEAD_POSITION_COST", type := .long, accessFlags := 26, slot := 2, constantValue := 0 }, { name := "branches", type := (.object "java/util/List"), accessFlags := 18, slot := 0, constantValue := 0 }, { name := "path", type := (.object "java/util/List"), accessFlags := 18, slot := 1, constantValue := 0 }, { name := "gapName", type := (.object "java/lang/String"), accessFlags := 18, slot := 2, constantValue := 0 }, { name := "nothing", type := (.object "com/example/xpath_reasoner/xpathreasoner/model/Pattern"), accessFlags := 18, slot := 3, constantValue := 0 }, { name := "childEdgesLeft", type := (.array (.array .boolean)), accessFlags := 18, slot := 4, constantValue := 0 }, { name := "tailsAgree", type := .boolean, accessFlags := 18, slot := 5, constantValue := 0 }]
  methods := #[k2m0]
  instanceTypes := #[(.object "java/util/List"), (.object "java/util/List"), (.object "java/lang/String"), (.object "com/example/xpath_reasoner/xpathreasoner/model/Pattern"), (.array (.array .boolean)), .boolean]
  staticTypes := #[.long, .long, .long]
  resolved := Array.replicate 578 none
  statics := none }

def pool3 : Array CpInfo := pool [(1, u "java/lang/Cloneable"), (0, .class_ 1), (0, u "java/lang/Object"), (0, .class_ 3)] 3

/-- java/lang/Cloneable -/
def k3 : Class := { plain "java/lang/Cloneable" (some 0) with
  accessFlags := 1537
  interfaces := #[]
  cf := some (fileOf pool3 2 #[] #[] 1537 4 #[] #[])
  fields := #[]
  methods := #[]
  instanceTypes := #[]
  staticTypes := #[]
  resolved := Array.replicate 8 none
  statics := none }

def pool4 : Array CpInfo := pool [(1, u "java/io/Serializable"), (0, .class_ 1), (0, u "java/lang/Object"), (0, .class_ 3)] 3

/-- java/io/Serializable -/
def k4 : Class := { plain "java/io/Serializable" (some 0) with
  accessFlags := 1537
  interfaces := #[]
  cf := some (fileOf pool4 2 #[] #[] 1537 4 #[] #[])
  fields := #[]
  methods := #[]
  instanceTypes := #[]
  staticTypes := #[]
  resolved := Array.replicate 8 none
  statics := none }

/-- the primitive byte -/
def k5 : Class := { plain "byte" none with kind := .primitive 'B', accessFlags := 0x411 }
/-- [B -/
def k6 : Class := { plain "[B" (some 0) with kind := .array 5 .byte, interfaces := #[3, 4], accessFlags := 1041 }

/-- the primitive int -/
def k7 : Class := { plain "int" none with kind := .primitive 'I', accessFlags := 0x411 }
/-- [I -/
def k8 : Class := { plain "[I" (some 0) with kind := .array 7 .int, interfaces := #[3, 4], accessFlags := 1041 }

def heap : Heap := #[]
def classes : Array Class := #[k0, k1, k2, k3, k4, k5, k6, k7, k8]
def interned : List (Array UInt16 × Addr) := []
def slotsUsed : Nat := 0
def theMethod : MethodId := ⟨1, 1⟩
def args0 : Array Value := #[.int 5, .int 300, .int 7, .int 9, .int 3]
def aboutOver (below : List Frame) : State where
  vm := { classes := classes, interned := interned.toArray }
  heap := heap
  slotsUsed := slotsUsed
  threads := #[{ frames := .invoking theMethod args0 :: below }]
def below0 : List Frame := [.native { method := ⟨0, 0⟩, args := #[] }]
def about1 : State := aboutOver below0
def p0 : Program := .bare "" "" ""
def e0 : Env := launch0.env 0 0 0
theorem w_frames : about1.frames = Frame.invoking theMethod args0 :: below0 := rfl
set_option maxRecDepth 65536 in
theorem w_args : argsFit about1.vm theMethod args0 = true := by decide +kernel
set_option maxRecDepth 65536 in
theorem w_heap : heapFits about1 = true := by decide +kernel
set_option maxRecDepth 65536 in
theorem w_runnable : about1.curStatus? = some .runnable := by decide +kernel
set_option maxRecDepth 65536 in
theorem w_alone : about1.alone = true := by decide +kernel
set_option maxRecDepth 65536 in
theorem w_named : about1.methodNamed? x = some theMethod := by decide +kernel
set_option maxRecDepth 65536 in
theorem w_hears : about1.hears theMethod below0 = true := by decide +kernel
set_option maxRecDepth 65536 in
theorem w_ripe : about1.ripe theMethod args0 below0 = true := by decide +kernel
theorem w_running : about1.status = .running := rfl
set_option maxRecDepth 65536 in
theorem w_room : about1.hasRoom e0.platform room_1 = true :=
  launch0.hasRoom_least _ room_1 (by decide +kernel) (by decide +kernel) (by decide +kernel) (by decide +kernel) (by decide +kernel) (by decide +kernel)
theorem allAtoms_all (ts : List Jvm.Cond) (a : Array Jvm.Value) (st : Jvm.State) : (allAtoms ts).before a st = ts.all (fun c => c.before a st) := by
  induction ts with
  | nil => rfl
  | cons c t ih =>
    show (Jvm.Cond.and c (allAtoms t)).before a st = _
    rw [Jvm.Cond.before_and, ih, List.all_cons]
def words1 : List Jvm.Cond := Jvm.Cond.code x code maxLocals ret :: tables_1
/-- a 'code' word, met by the world's own term for the bytes: nothing is compared byte by byte -/
theorem code_word {y : MethodName} {bytes : ByteArray} {mx : Nat} {rt : Option FieldType} {a : Array Value} {s : State} {m : MethodId} {meth : Method} {c : Code} (h1 : s.methodNamed? y = some m) (h2 : s.vm.method? m = some meth) (h3 : meth.code = some c) (h4 : c.code = bytes)
    (h5 : (c.maxLocals == mx && c.exceptionTable.isEmpty && decide (c.maxStack ≤ mostOperands) && decide (meth.sig.returnType = rt) && !meth.locks && decide (parseMethodDescriptor y.desc = some meth.sig)) = true) : (Jvm.Cond.code y bytes mx rt).before a s = true := by
  simp only [Bool.and_eq_true, beq_iff_eq, Bool.not_eq_true', decide_eq_true_eq] at h5
  obtain ⟨⟨⟨⟨⟨g1, g2⟩, g3⟩, g4⟩, g5⟩, g6⟩ := h5
  simp [Cond.before, Cond.holds, Cond.value, h1, h2, h3, h4, g1, g2, g3, g4, g5, g6]
def isCode : Jvm.Cond → Bool
  | .code _ _ _ _ => true
  | _ => false
theorem all_split {L : List Jvm.Cond} {P : Jvm.Cond → Bool} (h1 : L.all (fun c => isCode c || P c) = true) (h2 : ∀ c ∈ L.filter isCode, P c = true) : L.all P = true := by
  refine List.all_eq_true.mpr fun c hc => ?_
  have h := List.all_eq_true.mp h1 c hc
  rcases Bool.eq_false_or_eq_true (isCode c) with hi | hi
  · exact h2 c (List.mem_filter.mpr ⟨hc, hi⟩)
  · simpa [hi] using h
set_option maxRecDepth 65536 in
theorem w_c0 : (Jvm.Cond.code x code maxLocals ret).before args0 about1 = true := code_word (m := ⟨1, 1⟩) (meth := k1m1) (c := k1c1) (by decide +kernel) rfl rfl rfl (by decide +kernel)
set_option maxRecDepth 65536 in
theorem w_c1 : (Jvm.Cond.code ({ cls := "com/example/xpath_reasoner/xpathreasoner/reason/InterleavingsNextChoicePinLaw", name := "binom", desc := "(JI)J" } : Jvm.MethodName) method_3_code (3 : Nat) (Option.some Jvm.ClassFile.FieldType.long)).before args0 about1 = true := code_word (m := ⟨1, 2⟩) (meth := k1m2) (c := k1c2) (by decide +kernel) rfl rfl rfl (by decide +kernel)
set_option maxRecDepth 65536 in
theorem w_c2 : (Jvm.Cond.code ({ cls := "com/example/xpath_reasoner/xpathreasoner/reason/InterleavingsNextChoicePinLaw", name := "rank", desc := "([III)J" } : Jvm.MethodName) method_4_code (5 : Nat) (Option.some Jvm.ClassFile.FieldType.long)).before args0 about1 = true := code_word (m := ⟨1, 3⟩) (meth := k1m3) (c := k1c3) (by decide +kernel) rfl rfl rfl (by decide +kernel)
set_option maxRecDepth 65536 in
theorem w_c3 : (Jvm.Cond.code ({ cls := "com/example/xpath_reasoner/xpathreasoner/reason/Interleavings", name := "nextChoice", desc := "([II)Z" } : Jvm.MethodName) prog_135_method_12_code (4 : Nat) (Option.some Jvm.ClassFile.FieldType.boolean)).before args0 about1 = true := code_word (m := ⟨2, 0⟩) (meth := k2m0) (c := k2c0) (by decide +kernel) rfl rfl rfl (by decide +kernel)
set_option maxRecDepth 65536 in
theorem w_c4 : (Jvm.Cond.code ({ cls := "com/example/xpath_reasoner/xpathreasoner/reason/InterleavingsNextChoicePinLaw", name := "valid", desc := "([III)Z" } : Jvm.MethodName) method_5_code (3 : Nat) (Option.some Jvm.ClassFile.FieldType.boolean)).before args0 about1 = true := code_word (m := ⟨1, 4⟩) (meth := k1m4) (c := k1c4) (by decide +kernel) rfl rfl rfl (by decide +kernel)
def codes1 : List Jvm.Cond := [Jvm.Cond.code x code maxLocals ret, Jvm.Cond.code ({ cls := "com/example/xpath_reasoner/xpathreasoner/reason/InterleavingsNextChoicePinLaw", name := "binom", desc := "(JI)J" } : Jvm.MethodName) method_3_code (3 : Nat) (Option.some Jvm.ClassFile.FieldType.long), Jvm.Cond.code ({ cls := "com/example/xpath_reasoner/xpathreasoner/reason/InterleavingsNextChoicePinLaw", name := "rank", desc := "([III)J" } : Jvm.MethodName) method_4_code (5 : Nat) (Option.some Jvm.ClassFile.FieldType.long), Jvm.Cond.code ({ cls := "com/example/xpath_reasoner/xpathreasoner/reason/Interleavings", name := "nextChoice", desc := "([II)Z" } : Jvm.MethodName) prog_135_method_12_code (4 : Nat) (Option.some Jvm.ClassFile.FieldType.boolean), Jvm.Cond.code ({ cls := "com/example/xpath_reasoner/xpathreasoner/reason/InterleavingsNextChoicePinLaw", name := "valid", desc := "([III)Z" } : Jvm.MethodName) method_5_code (3 : Nat) (Option.some Jvm.ClassFile.FieldType.boolean)]
set_option maxRecDepth 65536 in
theorem codes_eq : words1.filter isCode = codes1 := rfl
theorem w_codes : ∀ c ∈ words1.filter isCode, c.before args0 about1 = true := by
  rw [codes_eq]
  intro c hc
  simp only [codes1, List.mem_cons, List.not_mem_nil, or_false] at hc
  rcases hc with rfl | rfl | rfl | rfl | rfl
  · exact w_c0
  · exact w_c1
  · exact w_c2
  · exact w_c3
  · exact w_c4
set_option maxRecDepth 65536 in
theorem w_t1 : words1.all (fun c => isCode c || c.before args0 about1) = true := by decide +kernel
theorem w_tables : (allAtoms (Jvm.Cond.code x code maxLocals ret :: tables_1)).before args0 about1 = true := by
  rw [allAtoms_all]
  show words1.all (fun c => c.before args0 about1) = true
  refine all_split ?_ w_codes
  rw [w_t1]
set_option maxRecDepth 65536 in
theorem w_case : (Jvm.Cond.and given_1 narrow_1).before args0 about1 = true := by decide +kernel
theorem w_applies : (headSpec (Jvm.Cond.code x code maxLocals ret :: tables_1) room_1).applies x e0.platform about1 = true :=
  (Spec.applies_iff w_frames).mpr ⟨w_running, w_runnable, w_alone, w_named, w_hears, w_ripe, w_room, w_tables⟩
theorem atStart : AtStart classFile x code maxLocals ret World_1 tables_1 room_1 Calls_1 rest_1 Pre_1 launch0 p0 e0 about1 theMethod args0 below0 :=
  ⟨lists_1, trivial, launch0.admits_env _ _ _, launch0.least_env, fairChoices_fair.cas, fairChoices_fair.clock, w_frames, w_args, w_heap, w_applies, trivial, trivial, w_case⟩
end start1
theorem witness_1 : WitnessClaimed_1 := ⟨start1.p0, start1.e0, start1.about1, start1.theMethod, start1.args0, start1.below0, start1.atStart⟩
end Jvm.Pilot.@@N@@
