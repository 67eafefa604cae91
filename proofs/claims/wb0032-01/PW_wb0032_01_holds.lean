import PyProof.Rows.All
import Wide.All
import OpenK.AllK
import Wide.FinOn
import PySem.Challenge.RW_wb0032_01
set_option Elab.async false
set_option linter.unusedVariables false
namespace Mine
theorem aG {P : Prop} (h : ∀ Z : Prop, (P → Z) → Z) : P := h P id
theorem goI {H Z : Prop} (e : H) (k : H → Z) : Z := k e
theorem exI {α : Sort _} {p : α → Prop} {Z : Prop} (k : ∀ x, p x → Z) (h : ∃ x, p x) : Z := h.elim k
theorem andI {a b Z : Prop} (k : a → b → Z) (h : a ∧ b) : Z := k h.1 h.2
theorem and3I {a b c Z : Prop} (k : a → b → c → Z) (h : a ∧ b ∧ c) : Z := k h.1 h.2.1 h.2.2
theorem and4I {a b c d Z : Prop} (k : a → b → c → d → Z) (h : a ∧ b ∧ c ∧ d) : Z := k h.1 h.2.1 h.2.2.1 h.2.2.2
local macro_rules | `(tactic| erw [$rs,*]) => `(tactic| rw [$rs,*])
local macro_rules | `(tactic| erw [$h:term]) => `(tactic| ((first | refine Eq.substr $h ?_ | refine Eq.substr ($h _) ?_ | refine Eq.substr ($h _ _) ?_ | fail); try (with_reducible rfl)))
local macro_rules | `(tactic| erw [$h:term, $rs,*]) => `(tactic| (erw [$h:term]; erw [$rs,*]))
noncomputable def rm (S : Nat → Bool) (v : Nat) : Nat → Bool := fun x => S x && !(x == v)
theorem dv (S : Nat → Bool) (a b : Nat) : rm (rm S a) b = rm (rm S b) a := by
 funext x; simp only [rm]; cases S x <;> cases (x == a) <;> cases (x == b) <;> rfl
theorem cU (S : Nat → Bool) (v : Nat) : rm S v v = false := by simp [rm]
theorem cz {S : Nat → Bool} {v u : Nat} (h : u ≠ v) : rm S v u = S u := by simp [rm, h]
theorem fW {S : Nat → Bool} {v u : Nat} (h : rm S v u = true) : S u = true ∧ u ≠ v := by
 simpa [rm] using h
noncomputable def pr (a : Nat → Int) : Nat → Int
 | 0 => 0
 | k + 1 => a k
noncomputable def mx (d : Int) (a : Nat → Int) : Nat → Int := fun k => pr a k - d * a k
noncomputable def bsp (d : Nat → Int) (S : Nat → Bool) : List Nat → Nat → Int
 | [] => fun k => if k = 0 then 1 else 0
 | v :: V => if S v then mx (d v) (bsp d S V) else bsp d S V
noncomputable abbrev cA := Nat × Nat × Int
noncomputable def pl (V : List Nat) (d : Nat → Int) : List cA → (Nat → Bool) → Nat → Int
 | [], S => bsp d S V
 | e :: E, S => fun k => pl V d E S k - (if S e.1 && S e.2.1 then e.2.2 * pl V d E (rm (rm S e.1) e.2.1) k else 0)
noncomputable def nb (v : Nat) (S : Nat → Bool) (f : Nat → Int) : List cA → Int
 | [] => 0
 | e :: E => (if e.1 = v ∧ S e.2.1 = true then e.2.2 * f e.2.1 else 0) + (if e.2.1 = v ∧ S e.1 = true then e.2.2 * f e.1 else 0) + nb v S f E
theorem nz (d e : Int) (a : Nat → Int) : mx d (mx e a) = mx e (mx d a) := by
 funext k; unfold mx; cases k with
 | zero => simp only [pr]; grind
 | succ k => simp only [pr]; grind
theorem pD (d w : Int) (a b : Nat → Int) (k : Nat) : mx d (fun k => a k - w * b k) k = mx d a k - w * mx d b k := by
 unfold mx; cases k <;> simp only [pr] <;> grind
theorem jc {d : Nat → Int} {S S' : Nat → Bool} : ∀ {V : List Nat}, (∀ v ∈ V, S v = S' v) → bsp d S V = bsp d S' V
 | [], _ => rfl
 | v :: V, h => by
   unfold bsp
   erw [h v (.head _), jc (V := V) fun u hu => h u (.tail _ hu)]
theorem ri {d : Nat → Int} {S : Nat → Bool} {v : Nat} {V : List Nat} (h : v ∉ V) : bsp d (rm S v) V = bsp d S V :=
 jc fun u hu => cz fun e => h (e ▸ hu)
theorem nk {d : Nat → Int} {S : Nat → Bool} {v : Nat} (hv : S v = true) : ∀ {V : List Nat}, V.Nodup → v ∈ V → bsp d S V = mx (d v) (bsp d (rm S v) V)
 | [], _, h => nomatch h
 | u :: V, hn, h => by
   rw [List.nodup_cons] at hn
   simp only [bsp]
   by_cases e : u = v
   · subst e
     erw [if_pos hv, cU, ri hn.1]; rfl
   · have hm : v ∈ V := by cases h with | head => exact absurd rfl e | tail _ h => exact h
     erw [cz e, nk hv hn.2 hm]
     split
     · erw [nz]
     · rfl
set_option tactic.hygienic true in
theorem pQ {v : Nat} {S : Nat → Bool} {f g : Nat → Int} (h : ∀ u, S u = true → f u = g u) : ∀ E : List cA, nb v S f E = nb v S g E
 | [] => rfl
 | e :: E => by
   unfold nb
   erw [pQ h E]
   congr 1
   congr 1
   · split
     · rename_i x; erw [h _ x.2]
     · rfl
   · split
     · rename_i x; erw [h _ x.2]
     · rfl
theorem qK {v : Nat} {S S' c : Nat → Bool} {f g h : Nat → Int} {w : Int} (hS : ∀ u, S' u = (S u && c u)) (hh : ∀ u, S u = true → h u = f u - (if c u = true then w * g u else 0)) : ∀ E : List cA, nb v S h E = nb v S f E - w * nb v S' g E
 | [] => by simp [nb]
 | e :: E => by
   unfold nb
   erw [qK hS hh E]
   have key : ∀ (P : Prop) [Decidable P] (u : Nat), (if P ∧ S u = true then e.2.2 * h u else 0) = (if P ∧ S u = true then e.2.2 * f u else 0) - w * (if P ∧ S' u = true then e.2.2 * g u else 0) := by
    intro P _ u
    erw [hS u]
    by_cases hp : P
    · cases hs : S u with
      | false => simp
      | true =>
        erw [hh u hs]
        cases hc : c u with
        | false => simp [hp]
        | true => simp [hp]; grind
    · simp [hp]
   erw [key (e.1 = v) e.2.1, key (e.2.1 = v) e.1]
   grind
set_option tactic.hygienic true in
theorem f8 {v : Nat} {S : Nat → Bool} {f : Nat → Int} : ∀ {E : List cA}, (∀ e ∈ E, 0 ≤ e.2.2 ∧ (e.1 = v → S e.2.1 = true → 0 ≤ f e.2.1) ∧ (e.2.1 = v → S e.1 = true → 0 ≤ f e.1)) → 0 ≤ nb v S f E
 | [], _ => Int.le_refl _
 | e :: E, h => by
   unfold nb
   have h1 := f8 (E := E) fun x hx => h x (.tail _ hx)
   obtain ⟨hw, ha, hb⟩ := h e (.head _)
   have k1 : 0 ≤ (if e.1 = v ∧ S e.2.1 = true then e.2.2 * f e.2.1 else 0) := by
    split
    · rename_i x; exact Int.mul_nonneg hw (ha x.1 x.2)
    · exact Int.le_refl _
   have k2 : 0 ≤ (if e.2.1 = v ∧ S e.1 = true then e.2.2 * f e.1 else 0) := by
    split
    · rename_i x; exact Int.mul_nonneg hw (hb x.1 x.2)
    · exact Int.le_refl _
   lia
theorem bn (V : List Nat) (d : Nat → Int) (a b : Nat) (w : Int) (E : List cA) (S : Nat → Bool) (k : Nat) :
 pl V d ((a, b, w) :: E) S k = pl V d E S k - (if (S a && S b) = true then w * pl V d E (rm (rm S a) b) k else 0) := rfl
theorem cc {V : List Nat} {d : Nat → Int} {a b : Nat} {w : Int} {E : List cA} {S : Nat → Bool} (h : (S a && S b) = false) : pl V d ((a, b, w) :: E) S = pl V d E S := by
 funext k; erw [bn, h]; simp
theorem fh (v : Nat) (S : Nat → Bool) (f : Nat → Int) (a b : Nat) (w : Int) (E : List cA) :
 nb v S f ((a, b, w) :: E) = (if a = v ∧ S b = true then w * f b else 0) + (if b = v ∧ S a = true then w * f a else 0) + nb v S f E := rfl
theorem eQ (a b : Nat) : (a == b) = (b == a) := Bool.eq_iff_iff.mpr (by erw [beq_iff_eq, beq_iff_eq]; exact eq_comm)
theorem eI {V : List Nat} {d : Nat → Int} (hn : V.Nodup) {v : Nat} (hm : v ∈ V) : ∀ (E : List cA), (∀ e ∈ E, e.1 ≠ e.2.1) → ∀ (S : Nat → Bool), S v = true → ∀ k,
 pl V d E S k = mx (d v) (pl V d E (rm S v)) k - nb v (rm S v) (fun u => pl V d E (rm (rm S v) u) k) E
 | [], _, S, hv, k => by simp only [pl, nb]; erw [nk hv hn hm]; simp
 | (a, b, w) :: E, hE, S, hv, k => by
   have hne : a ≠ b := hE (a, b, w) (.head _)
   have IH := eI (d := d) hn hm E fun x hx => hE x (.tail _ hx)
   erw [fh]
   by_cases ha : a = v
   · subst ha
     erw [cc (S := rm S a) (by simp [cU]), cc (S := rm (rm S a) b) (by simp [rm]), show (fun u => pl V d ((a, b, w) :: E) (rm (rm S a) u) k) = fun u => pl V d E (rm (rm S a) u) k from funext fun u => by erw [cc (by simp [rm])]]
     erw [bn, IH S hv k, hv, cz (Ne.symm hne)]
     simp only [Ne.symm hne, Bool.true_and, true_and, false_and, if_false]
     generalize (if S b = true then w * pl V d E (rm (rm S a) b) k else 0) = z
     lia
   · by_cases hb : b = v
     · subst hb
       erw [cc (S := rm S b) (by simp [cU]), cc (S := rm (rm S b) a) (by simp [rm]), show (fun u => pl V d ((a, b, w) :: E) (rm (rm S b) u) k) = fun u => pl V d E (rm (rm S b) u) k from funext fun u => by erw [cc (by simp [rm])]]
       erw [bn, IH S hv k, hv, cz hne, dv S a b]
       simp only [hne, Bool.and_true, true_and, false_and, if_false]
       generalize (if S a = true then w * pl V d E (rm (rm S b) a) k else 0) = z
       lia
     · erw [if_neg (fun h => ha h.1), if_neg (fun h => hb h.1)]
       cases hc : (S a && S b) with
       | false =>
         erw [cc hc, cc (S := rm S v) (by erw [cz ha, cz hb, hc]), show (fun u => pl V d ((a, b, w) :: E) (rm (rm S v) u) k) = fun u => pl V d E (rm (rm S v) u) k from funext fun u => by
          erw [cc (by
           simp only [rm]
           rcases Bool.and_eq_false_iff.mp hc with h | h <;> simp [h])]]
         erw [IH S hv k]; lia
       | true =>
         obtain ⟨hsa, hsb⟩ := Bool.and_eq_true_iff.mp hc
         have hS'v : rm (rm S a) b v = true := by simp [rm, hv, Ne.symm ha, Ne.symm hb]
         have hS' : rm (rm (rm S v) a) b = rm (rm (rm S a) b) v := by
          erw [dv S v a, dv (rm S a) v b]
         have e1 : pl V d ((a, b, w) :: E) (rm S v) = fun j => pl V d E (rm S v) j - w * pl V d E (rm (rm (rm S a) b) v) j := by
          funext j; erw [bn, cz ha, cz hb, hc, hS']; rfl
         have e2 : ∀ u, rm S v u = true → pl V d ((a, b, w) :: E) (rm (rm S v) u) k = pl V d E (rm (rm S v) u) k - (if (!(u == a) && !(u == b)) = true then w * pl V d E (rm (rm (rm (rm S a) b) v) u) k else 0) := by
          intro u hu
          have h1 : (rm (rm S v) u a && rm (rm S v) u b) = (!(u == a) && !(u == b)) := by
           have q1 : rm (rm S v) u a = !(u == a) := by erw [eQ u a]; simp [rm, hsa, ha]
           have q2 : rm (rm S v) u b = !(u == b) := by erw [eQ u b]; simp [rm, hsb, hb]
           erw [q1, q2]
          have h2 : rm (rm (rm (rm S v) u) a) b = rm (rm (rm (rm S a) b) v) u := by
           rw [← hS', dv (rm S v) u a, dv (rm (rm S v) a) u b]
          erw [bn, h1, h2]
         erw [e1, pD]
         have e3 := qK (v := v) (S := rm S v) (S' := rm (rm (rm S a) b) v) (c := fun u => !(u == a) && !(u == b)) (f := fun u => pl V d E (rm (rm S v) u) k)
          (g := fun u => pl V d E (rm (rm (rm (rm S a) b) v) u) k) (h := fun u => pl V d ((a, b, w) :: E) (rm (rm S v) u) k) (w := w)
          (by intro u; simp only [rm]; cases S u <;> cases (u == a) <;> cases (u == b) <;> cases (u == v) <;> rfl) e2 E
         erw [e3, bn, if_pos hc, IH S hv k, IH _ hS'v k]
         grind
noncomputable def sm (S : Nat → Bool) (f : Nat → Int) : List Nat → Int
 | [] => 0
 | v :: V => (if S v = true then f v else 0) + sm S f V
theorem dK {S : Nat → Bool} {f g : Nat → Int} : ∀ {V : List Nat}, (∀ v ∈ V, S v = true → f v = g v) → sm S f V = sm S g V
 | [], _ => rfl
 | v :: V, h => by
   unfold sm
   erw [dK fun u hu => h u (.tail _ hu)]
   congr 1
   split
   · exact h v (.head _) (by assumption)
   · rfl
theorem re {S S' c : Nat → Bool} {f g h : Nat → Int} {w : Int} (hS : ∀ u, S' u = (S u && c u)) (hh : ∀ u, S u = true → h u = f u - (if c u = true then w * g u else 0)) : ∀ V : List Nat, sm S h V = sm S f V - w * sm S' g V
 | [] => by simp [sm]
 | v :: V => by
   unfold sm
   erw [re hS hh V, hS v]
   cases hs : S v with
   | false => simp; try grind
   | true =>
     erw [hh v hs]
     cases c v <;> simp <;> grind
theorem ir {S : Nat → Bool} {f g h : Nat → Int} {p q : Int} (hh : ∀ u, S u = true → h u = p * f u + q * g u) : ∀ V : List Nat, sm S h V = p * sm S f V + q * sm S g V
 | [] => by simp [sm]
 | v :: V => by
   unfold sm
   erw [ir hh V]
   split
   · erw [hh v (by assumption)]; grind
   · grind
theorem d5 {S : Nat → Bool} {f : Nat → Int} : ∀ {V : List Nat}, (∀ v ∈ V, S v = true → 0 ≤ f v) → 0 ≤ sm S f V
 | [], _ => Int.le_refl _
 | v :: V, h => by
   unfold sm
   have h1 := d5 (V := V) fun u hu => h u (.tail _ hu)
   split
   · have := h v (.head _) (by assumption); lia
   · lia
theorem nr {S : Nat → Bool} {f : Nat → Int} : ∀ {V : List Nat}, (∀ v ∈ V, S v = true → 0 ≤ f v) → sm S f V = 0 → ∀ v ∈ V, S v = true → f v = 0
 | [], _, _, _, h => nomatch h
 | v :: V, h, e, u, hu => by
   unfold sm at e
   have h1 := d5 (V := V) fun u hu => h u (.tail _ hu)
   have h2 : 0 ≤ (if S v = true then f v else 0) := by
    split
    · exact h v (.head _) (by assumption)
    · lia
   intro hs
   cases hu with
   | head => rw [if_pos hs] at e h2; lia
   | tail _ hu => exact nr (V := V) (fun u hu => h u (.tail _ hu)) (by lia) u hu hs
theorem mX {d : Nat → Int} : ∀ {V : List Nat}, V.Nodup → ∀ (S : Nat → Bool) (k : Nat), ((k : Int) + 1) * bsp d S V (k + 1) = sm S (fun v => bsp d (rm S v) V k) V
 | [], _, S, k => by simp [bsp, sm]
 | u :: V, hn, S, k => by
   rw [List.nodup_cons] at hn
   have hu : bsp d (rm S u) (u :: V) = bsp d S V := by simp only [bsp]; erw [cU, ri hn.1]; rfl
   have IH := mX (d := d) hn.2 S
   simp only [sm]
   erw [hu]
   cases hs : S u with
   | false =>
     have e : sm S (fun v => bsp d (rm S v) (u :: V) k) V = sm S (fun v => bsp d (rm S v) V k) V := dK fun v hv ux => by
      simp only [bsp]; erw [show rm S v u = false from by simp [rm, hs]]; rfl
     erw [e, ← IH k]
     simp [bsp, hs]
   | true =>
     have hb : bsp d S (u :: V) = mx (d u) (bsp d S V) := by simp [bsp, hs]
     have e1 : ∀ v ∈ V, bsp d (rm S v) (u :: V) = mx (d u) (bsp d (rm S v) V) := fun v hv => by
      simp only [bsp]; erw [show rm S v u = true from by simp [rm, hs]; exact fun q => hn.1 (q ▸ hv)]; rfl
     erw [hb]
     cases k with
     | zero =>
       have e2 : sm S (fun v => bsp d (rm S v) (u :: V) 0) V = 0 * sm S (fun v => 0) V + (- d u) * sm S (fun v => bsp d (rm S v) V 0) V := by
        erw [dK (g := fun v => 0 * 0 + (- d u) * bsp d (rm S v) V 0) fun v hv ux => by erw [e1 v hv]; simp only [mx, pr]; grind]
        exact ir (fun ux ux => rfl) V
       erw [e2, ← IH 0]
       simp only [mx, pr]
       grind
     | succ k =>
       have e2 : sm S (fun v => bsp d (rm S v) (u :: V) (k + 1)) V = 1 * sm S (fun v => bsp d (rm S v) V k) V + (- d u) * sm S (fun v => bsp d (rm S v) V (k + 1)) V := by
        erw [dK (g := fun v => 1 * bsp d (rm S v) V k + (- d u) * bsp d (rm S v) V (k + 1)) fun v hv ux => by erw [e1 v hv]; simp only [mx, pr]; grind]
        exact ir (fun ux ux => rfl) V
       erw [e2, ← IH k, ← IH (k + 1)]
       simp only [mx, pr]
       simp only [Int.natCast_add, Int.natCast_one]
       grind
theorem jK {V : List Nat} {d : Nat → Int} (hn : V.Nodup) : ∀ (E : List cA), (∀ e ∈ E, e.1 ≠ e.2.1) → ∀ (S : Nat → Bool) (k : Nat),
 ((k : Int) + 1) * pl V d E S (k + 1) = sm S (fun v => pl V d E (rm S v) k) V
 | [], _, S, k => mX hn S k
 | (a, b, w) :: E, hE, S, k => by
   have IH := jK (d := d) hn E fun x hx => hE x (.tail _ hx)
   cases hc : (S a && S b) with
   | false =>
     erw [cc hc, show (fun v => pl V d ((a, b, w) :: E) (rm S v) k) = fun v => pl V d E (rm S v) k from funext fun v => by
      erw [cc (by
       simp only [rm]
       rcases Bool.and_eq_false_iff.mp hc with h | h <;> simp [h])]]
     exact IH S k
   | true =>
     obtain ⟨hsa, hsb⟩ := Bool.and_eq_true_iff.mp hc
     have e3 := re (S := S) (S' := rm (rm S a) b) (c := fun u => !(u == a) && !(u == b)) (f := fun v => pl V d E (rm S v) k) (g := fun v => pl V d E (rm (rm (rm S a) b) v) k)
      (h := fun v => pl V d ((a, b, w) :: E) (rm S v) k) (w := w)
      (by intro u; simp only [rm]; cases S u <;> cases (u == a) <;> cases (u == b) <;> rfl)
      (by
       intro u hu
       have h1 : (rm S u a && rm S u b) = (!(u == a) && !(u == b)) := by
        have q1 : rm S u a = !(u == a) := by erw [eQ u a]; simp [rm, hsa]
        have q2 : rm S u b = !(u == b) := by erw [eQ u b]; simp [rm, hsb]
        erw [q1, q2]
       have h2 : rm (rm (rm S u) a) b = rm (rm (rm S a) b) u := by erw [dv S u a, dv (rm S a) u b]
       erw [bn, h1, h2]) V
     erw [e3, bn, if_pos hc, ← IH S k, ← IH _ k]
     grind
noncomputable def Nw (a : Nat → Int) (k : Nat) : Int := a k * a k - pr a k * a (k + 1)
noncomputable def Wr (a b : Nat → Int) (k : Nat) : Int := a (k + 1) * b k - a k * b (k + 1)
structure Gr (V : List Nat) (E : List cA) : Prop where
 nd : V.Nodup
 ne : ∀ e ∈ E, e.1 ≠ e.2.1
 inV : ∀ e ∈ E, e.1 ∈ V ∧ e.2.1 ∈ V
 pos : ∀ e ∈ E, 0 ≤ e.2.2
theorem pW {v : Nat} {S : Nat → Bool} {f g : Nat → Int} {p q : Int} : ∀ E : List cA, nb v S (fun u => p * f u - q * g u) E = p * nb v S f E - q * nb v S g E
 | [] => by simp [nb]
 | (a, b, w) :: E => by
   erw [fh, fh, fh, pW E]
   split <;> split <;> grind
section
variable {V : List Nat} {E : List cA} {d : Nat → Int}
theorem Wr_eq (G : Gr V E) {S : Nat → Bool} {v : Nat} (hm : v ∈ V) (hv : S v = true) (k : Nat) :
 Wr (pl V d E S) (pl V d E (rm S v)) k = Nw (pl V d E (rm S v)) k + nb v (rm S v) (fun u => Wr (pl V d E (rm S v)) (pl V d E (rm (rm S v) u)) k) E := by
 have e := eI (d := d) G.nd hm E G.ne S hv
 unfold Wr Nw
 erw [pW, e (k + 1), e k]
 simp only [mx, pr]
 generalize nb v (rm S v) (fun u => pl V d E (rm (rm S v) u) k) E = x
 generalize nb v (rm S v) (fun u => pl V d E (rm (rm S v) u) (k + 1)) E = y
 grind
noncomputable def sz (S : Nat → Bool) (V : List Nat) : Nat := V.countP S
theorem cF {S : Nat → Bool} {v : Nat} (hv : S v = true) : ∀ {V : List Nat}, V.Nodup → v ∈ V → sz S V = sz (rm S v) V + 1
 | [], _, h => nomatch h
 | u :: V, hn, h => by
   rw [List.nodup_cons] at hn
   unfold sz
   erw [List.countP_cons, List.countP_cons]
   by_cases e : u = v
   · subst e
     erw [hv, cU]
     have : V.countP (rm S u) = V.countP S := List.countP_congr fun x hx => by erw [cz (fun q : x = u => hn.1 (q ▸ hx))]
     simp [this]
   · have hm : v ∈ V := by cases h with | head => exact absurd rfl e | tail _ h => exact h
     have := cF hv hn.2 hm
     unfold sz at this
     erw [this, cz e]
     lia
theorem jI {d : Nat → Int} {S : Nat → Bool} : ∀ {V : List Nat}, (∀ k, sz S V < k → bsp d S V k = 0) ∧ bsp d S V (sz S V) = 1
 | [] => by
   refine ⟨fun k h => ?_, rfl⟩
   have : k ≠ 0 := by have : sz S [] = 0 := rfl; lia
   simp [bsp, this]
 | u :: V => by
   obtain ⟨h1, h2⟩ := jI (d := d) (S := S) (V := V)
   cases hs : S u with
   | false =>
     have e : sz S (u :: V) = sz S V := by unfold sz; erw [List.countP_cons]; simp [hs]
     have e2 : bsp d S (u :: V) = bsp d S V := by simp [bsp, hs]
     erw [e, e2]; exact ⟨h1, h2⟩
   | true =>
     have e : sz S (u :: V) = sz S V + 1 := by unfold sz; erw [List.countP_cons]; simp [hs]
     have e2 : bsp d S (u :: V) = mx (d u) (bsp d S V) := by simp [bsp, hs]
     erw [e, e2]
     refine ⟨fun k h => ?_, ?_⟩
     · cases k with
       | zero => lia
       | succ k => simp only [mx, pr]; erw [h1 k (by lia), h1 (k + 1) (by lia)]; simp
     · simp only [mx, pr]; erw [h2, h1 _ (Nat.lt_succ_self _)]; simp
theorem gi (hn : V.Nodup) : ∀ (E : List cA), (∀ e ∈ E, e.1 ≠ e.2.1) → (∀ e ∈ E, e.1 ∈ V ∧ e.2.1 ∈ V) → ∀ S, (∀ k, sz S V < k → pl V d E S k = 0) ∧ pl V d E S (sz S V) = 1
 | [], _, _, S => jI
 | (a, b, w) :: E, hE, hV, S => by
   have IH := gi hn E (fun x hx => hE x (.tail _ hx)) fun x hx => hV x (.tail _ hx)
   have hne : a ≠ b := hE _ (.head _)
   obtain ⟨va, vb⟩ := hV _ (List.mem_cons_self ..)
   dsimp only at va vb
   cases hc : (S a && S b) with
   | false => erw [cc hc]; exact IH S
   | true =>
     obtain ⟨hsa, hsb⟩ := Bool.and_eq_true_iff.mp hc
     have q1 := cF hsa hn va
     have q2 := cF (S := rm S a) (v := b) (by erw [cz (Ne.symm hne)]; exact hsb) hn vb
     refine ⟨fun k h => ?_, ?_⟩
     · erw [bn, if_pos hc, (IH S).1 k h, (IH _).1 k (by lia)]; simp
     · erw [bn, if_pos hc, (IH S).2, (IH _).1 _ (by lia)]; simp
theorem lu {k : Nat} {x y z s : Int} (h : ((k : Int) + 1) * (y * y) - ((k : Int) + 2) * (x * z) = s) (hs : 0 ≤ s) : 0 ≤ y * y - x * z := by
 have sq : 0 ≤ y * y := by
  rcases Int.le_total 0 y with h | h
  · exact Int.mul_nonneg h h
  · exact Int.mul_nonneg_of_nonpos_of_nonpos h h
 by_cases hp : x * z ≤ 0
 · lia
 · have h2 : 0 ≤ ((k : Int) + 1) * (y * y - x * z) := by
    have : ((k : Int) + 1) * (y * y - x * z) = s + x * z := by grind
    lia
   by_cases hq : 0 ≤ y * y - x * z
   · exact hq
   · exfalso
     have h3 : ((k : Int) + 1) * (y * y - x * z) < 0 := Int.mul_neg_of_pos_of_neg (by lia) (by lia)
     lia
theorem iH (G : Gr V E) (S : Nat → Bool) (k : Nat) :
 ((k : Int) + 1) * (pl V d E S (k + 1) * pl V d E S (k + 1)) - ((k : Int) + 2) * (pl V d E S k * pl V d E S (k + 2)) = sm S (fun v => Wr (pl V d E S) (pl V d E (rm S v)) k) V := by
 have e1 := jK (d := d) G.nd E G.ne S k
 have e2 := jK (d := d) G.nd E G.ne S (k + 1)
 have e3 := ir (S := S) (f := fun v => pl V d E (rm S v) k) (g := fun v => pl V d E (rm S v) (k + 1)) (h := fun v => Wr (pl V d E S) (pl V d E (rm S v)) k)
  (p := pl V d E S (k + 1)) (q := - pl V d E S k) (fun u ux => by unfold Wr; grind) V
 erw [e3, ← e1, ← e2]
 simp only [Int.natCast_add, Int.natCast_one]
 grind
theorem cw (G : Gr V E) : ∀ (n : Nat) (S : Nat → Bool), sz S V = n → (∀ k, 0 ≤ Nw (pl V d E S) k) ∧ ∀ v ∈ V, S v = true → ∀ k, Nw (pl V d E (rm S v)) k ≤ Wr (pl V d E S) (pl V d E (rm S v)) k := by
 intro n
 induction n using Nat.strongRecOn with
 | ind n ih =>
   intro S hS
   have hW : ∀ v ∈ V, S v = true → (∀ k, 0 ≤ Nw (pl V d E (rm S v)) k) ∧ ∀ k, Nw (pl V d E (rm S v)) k ≤ Wr (pl V d E S) (pl V d E (rm S v)) k := by
    intro v hm hv
    have hsz := cF hv G.nd hm
    have A := ih (sz (rm S v) V) (by lia) (rm S v) rfl
    refine ⟨A.1, fun k => ?_⟩
    erw [Wr_eq G hm hv k]
    have : 0 ≤ nb v (rm S v) (fun u => Wr (pl V d E (rm S v)) (pl V d E (rm (rm S v) u)) k) E := by
     refine f8 fun e he => ⟨G.pos e he, fun ux hs => ?_, fun ux hs => ?_⟩
     · have hm' := (G.inV e he).2
       have := cF hs G.nd hm'
       have B := ih (sz (rm (rm S v) e.2.1) V) (by lia) _ rfl
       exact Int.le_trans (B.1 k) (A.2 _ hm' hs k)
     · have hm' := (G.inV e he).1
       have := cF hs G.nd hm'
       have B := ih (sz (rm (rm S v) e.1) V) (by lia) _ rfl
       exact Int.le_trans (B.1 k) (A.2 _ hm' hs k)
    lia
   refine ⟨fun k => ?_, fun v hm hv => (hW v hm hv).2⟩
   cases k with
   | zero =>
     unfold Nw; simp only [pr]
     rcases Int.le_total 0 (pl V d E S 0) with h | h
     · have := Int.mul_nonneg h h; lia
     · have := Int.mul_nonneg_of_nonpos_of_nonpos h h; lia
   | succ k =>
     refine lu (iH G S k) (d5 fun v hm hv => ?_)
     have := hW v hm hv
     exact Int.le_trans (this.1 k) (this.2 k)
set_option tactic.hygienic true in
theorem mQ {v : Nat} {S : Nat → Bool} {f : Nat → Int} : ∀ {E : List cA}, (∀ e ∈ E, 0 ≤ e.2.2 ∧ (e.1 = v → S e.2.1 = true → 0 ≤ f e.2.1) ∧ (e.2.1 = v → S e.1 = true → 0 ≤ f e.1)) → nb v S f E = 0 →
 ∀ e ∈ E, (e.1 = v → S e.2.1 = true → e.2.2 * f e.2.1 = 0) ∧ (e.2.1 = v → S e.1 = true → e.2.2 * f e.1 = 0)
 | [], _, _, _, h => nomatch h
 | e :: E, h, hz, x, hx => by
   unfold nb at hz
   have h1 := f8 (E := E) fun x hx => h x (.tail _ hx)
   obtain ⟨hw, ha, hb⟩ := h e (.head _)
   have k1 : 0 ≤ (if e.1 = v ∧ S e.2.1 = true then e.2.2 * f e.2.1 else 0) := by
    split
    · rename_i x; exact Int.mul_nonneg hw (ha x.1 x.2)
    · exact Int.le_refl _
   have k2 : 0 ≤ (if e.2.1 = v ∧ S e.1 = true then e.2.2 * f e.1 else 0) := by
    split
    · rename_i x; exact Int.mul_nonneg hw (hb x.1 x.2)
    · exact Int.le_refl _
   cases hx with
   | head =>
     refine ⟨fun e1 e2 => ?_, fun e1 e2 => ?_⟩
     · have q : (if e.1 = v ∧ S e.2.1 = true then e.2.2 * f e.2.1 else 0) = e.2.2 * f e.2.1 := if_pos ⟨e1, e2⟩
       lia
     · have q : (if e.2.1 = v ∧ S e.1 = true then e.2.2 * f e.1 else 0) = e.2.2 * f e.1 := if_pos ⟨e1, e2⟩
       lia
   | tail _ hx => exact mQ (E := E) (fun x hx => h x (.tail _ hx)) (by lia) x hx
set_option tactic.hygienic true in
theorem ew {v : Nat} {S : Nat → Bool} {f : Nat → Int} : ∀ {E : List cA}, (∀ e ∈ E, (e.1 = v → S e.2.1 = true → e.2.2 * f e.2.1 = 0) ∧ (e.2.1 = v → S e.1 = true → e.2.2 * f e.1 = 0)) → nb v S f E = 0
 | [], _ => rfl
 | e :: E, h => by
   unfold nb
   erw [ew (E := E) fun x hx => h x (.tail _ hx)]
   have := h e (.head _)
   have k1 : (if e.1 = v ∧ S e.2.1 = true then e.2.2 * f e.2.1 else 0) = 0 := by
    split
    · rename_i x; exact this.1 x.1 x.2
    · rfl
   have k2 : (if e.2.1 = v ∧ S e.1 = true then e.2.2 * f e.1 else 0) = 0 := by
    split
    · rename_i x; exact this.2 x.1 x.2
    · rfl
   lia
theorem gz (G : Gr V E) {S : Nat → Bool} {v : Nat} (hm : v ∈ V) (hv : S v = true) {k : Nat} (h : Wr (pl V d E S) (pl V d E (rm S v)) k = 0) :
 Nw (pl V d E (rm S v)) k = 0 ∧ ∀ e ∈ E, (e.1 = v → rm S v e.2.1 = true → e.2.2 = 0 ∨ Nw (pl V d E (rm (rm S v) e.2.1)) k = 0) ∧ (e.2.1 = v → rm S v e.1 = true → e.2.2 = 0 ∨ Nw (pl V d E (rm (rm S v) e.1)) k = 0) := by
 have N1 := cw (d := d) G _ S rfl
 have N2 := cw (d := d) G _ (rm S v) rfl
 have hW := N1.2 v hm hv k
 have hN := N2.1 k
 have hz : Nw (pl V d E (rm S v)) k = 0 := by lia
 refine ⟨hz, ?_⟩
 rw [Wr_eq G hm hv k, hz] at h
 have nn : ∀ e ∈ E, 0 ≤ e.2.2 ∧ (e.1 = v → rm S v e.2.1 = true → 0 ≤ Wr (pl V d E (rm S v)) (pl V d E (rm (rm S v) e.2.1)) k) ∧ (e.2.1 = v → rm S v e.1 = true → 0 ≤ Wr (pl V d E (rm S v)) (pl V d E (rm (rm S v) e.1)) k) := fun e he =>
  ⟨G.pos e he, fun ux hs => Int.le_trans ((cw (d := d) G _ _ rfl).1 k) (N2.2 _ (G.inV e he).2 hs k), fun ux hs => Int.le_trans ((cw (d := d) G _ _ rfl).1 k) (N2.2 _ (G.inV e he).1 hs k)⟩
 intro e he
 have z := mQ (f := fun u => Wr (pl V d E (rm S v)) (pl V d E (rm (rm S v) u)) k) nn (by lia) e he
 refine ⟨fun e1 hs => ?_, fun e1 hs => ?_⟩
 · rcases Int.mul_eq_zero.mp (z.1 e1 hs) with q | q
   · exact .inl q
   · have a := N2.2 _ (G.inV e he).2 hs k
     have b := (cw (d := d) G _ (rm (rm S v) e.2.1) rfl).1 k
     exact .inr (by lia)
 · rcases Int.mul_eq_zero.mp (z.2 e1 hs) with q | q
   · exact .inl q
   · have a := N2.2 _ (G.inV e he).1 hs k
     have b := (cw (d := d) G _ (rm (rm S v) e.1) rfl).1 k
     exact .inr (by lia)
theorem mt (G : Gr V E) : ∀ (n : Nat) (S : Nat → Bool), sz S V = n → ∀ k, k ≤ n → Nw (pl V d E S) k = 0 → ∀ j, j ≤ k → pl V d E S j = 0 := by
 intro n
 induction n using Nat.strongRecOn with
 | ind n ih =>
   intro S hS k hk h j hj
   have D := gi (d := d) G.nd E G.ne G.inV S
   cases k with
   | zero =>
     have : j = 0 := by lia
     subst this
     unfold Nw at h; simp only [pr] at h
     have : pl V d E S 0 * pl V d E S 0 = 0 := by lia
     rcases Int.mul_eq_zero.mp this with q | q <;> exact q
   | succ k =>
     have h : pl V d E S (k + 1) * pl V d E S (k + 1) - pl V d E S k * pl V d E S (k + 2) = 0 := h
     have hs := iH (d := d) G S k
     have nn : ∀ v ∈ V, S v = true → 0 ≤ Wr (pl V d E S) (pl V d E (rm S v)) k := fun v hm hv =>
      Int.le_trans ((cw (d := d) G _ (rm S v) rfl).1 k) ((cw (d := d) G _ S rfl).2 v hm hv k)
     have hnn := d5 nn
     have sq : 0 ≤ pl V d E S (k + 1) * pl V d E S (k + 1) := by
      rcases Int.le_total 0 (pl V d E S (k + 1)) with h | h
      · exact Int.mul_nonneg h h
      · exact Int.mul_nonneg_of_nonpos_of_nonpos h h
     have ex : pl V d E S k * pl V d E S (k + 2) = pl V d E S (k + 1) * pl V d E S (k + 1) := by omega
     rw [ex] at hs
     have hz2 : pl V d E S (k + 1) * pl V d E S (k + 1) = 0 := by
      have : ((k : Int) + 1) * (pl V d E S (k + 1) * pl V d E S (k + 1)) - ((k : Int) + 2) * (pl V d E S (k + 1) * pl V d E S (k + 1)) = - (pl V d E S (k + 1) * pl V d E S (k + 1)) := by grind
      omega
     have hk1 : pl V d E S (k + 1) = 0 := by rcases Int.mul_eq_zero.mp hz2 with q | q <;> exact q
     have hsum : sm S (fun v => Wr (pl V d E S) (pl V d E (rm S v)) k) V = 0 := by rw [← hs, hz2]; simp
     have hW := nr nn hsum
     have hkn : k + 1 < n := by
      rcases Nat.lt_or_ge (k + 1) n with q | q
      · exact q
      · exfalso
        have : k + 1 = sz S V := by lia
        rw [this, D.2] at hk1
        lia
     have below : ∀ v ∈ V, S v = true → ∀ i, i ≤ k → pl V d E (rm S v) i = 0 := fun v hm hv i hi => by
      have hsz := cF hv G.nd hm
      exact ih (sz (rm S v) V) (by lia) _ rfl k (by lia) (gz G hm hv (hW v hm hv)).1 i hi
     cases j with
     | succ j =>
       have e1 := jK (d := d) G.nd E G.ne S j
       have e2 : sm S (fun v => pl V d E (rm S v) j) V = 0 := by
        erw [dK (g := fun ux => 0 * 0 + 0 * 0) fun v hm hv => by erw [below v hm hv j (by lia)]; rfl]
        erw [ir (f := fun ux => 0) (g := fun ux => 0) (p := 0) (q := 0) (fun ux ux => rfl) V]; simp
       rw [e2] at e1
       rcases Int.mul_eq_zero.mp e1 with q | q
       · lia
       · exact q
     | zero =>
       have hex : ∃ v ∈ V, S v = true := by
        have : 0 < V.countP S := by unfold sz at hS; lia
        exact List.countP_pos_iff.mp this
       obtain ⟨v, hm, hv⟩ := hex
       have hsz := cF hv G.nd hm
       erw [eI (d := d) G.nd hm E G.ne S hv 0]
       have ez := (gz G hm hv (hW v hm hv)).2
       have z : nb v (rm S v) (fun u => pl V d E (rm (rm S v) u) 0) E = 0 := by
        refine ew fun e he => ⟨fun e1 hs => ?_, fun e1 hs => ?_⟩
        · rcases (ez e he).1 e1 hs with q | q
          · erw [q]; simp
          · have h2 := cF hs G.nd (G.inV e he).2
            erw [ih (sz (rm (rm S v) e.2.1) V) (by lia) _ rfl k (by lia) q 0 (by lia)]; simp
        · rcases (ez e he).2 e1 hs with q | q
          · erw [q]; simp
          · have h2 := cF hs G.nd (G.inV e he).1
            erw [ih (sz (rm (rm S v) e.1) V) (by lia) _ rfl k (by lia) q 0 (by lia)]; simp
       erw [z]
       simp only [mx, pr]
       erw [below v hm hv 0 (by lia)]; simp
end
noncomputable def aR (l : List Int) : List Bool := (l.filter (fun x => decide (x ≠ 0))).map (fun x => decide (0 < x))
noncomputable def chg : List Bool → Nat
 | [] => 0
 | [_] => 0
 | a :: b :: r => (if a = b then 0 else 1) + chg (b :: r)
noncomputable def vr (l : List Int) : Nat := chg (aR l)
noncomputable def fs (l : List Int) : Option Bool := (aR l).head?
noncomputable def lz : List Int → Nat
 | [] => 0
 | x :: r => if x = 0 then lz r + 1 else 0
theorem bM (l : List Int) : aR (0 :: l) = aR l := by simp [aR]
theorem df {x : Int} (h : x ≠ 0) (l : List Int) : aR (x :: l) = decide (0 < x) :: aR l := by simp [aR, h]
theorem fs_zero (l : List Int) : fs (0 :: l) = fs l := by unfold fs; erw [bM]
theorem vr_zero (l : List Int) : vr (0 :: l) = vr l := by unfold vr; erw [bM]
theorem fs_ne {x : Int} (h : x ≠ 0) (l : List Int) : fs (x :: l) = some (decide (0 < x)) := by unfold fs; erw [df h]; rfl
theorem vr_ne {x : Int} (h : x ≠ 0) {l : List Int} {α : Bool} (e : fs l = some α) : vr (x :: l) = vr l + (if decide (0 < x) = α then 0 else 1) := by
 unfold vr; erw [df h]
 unfold fs at e
 cases hm : aR l with
 | nil => rw [hm] at e; cases e
 | cons b r =>
   rw [hm] at e
   have : b = α := by simpa using e
   subst this
   show (if decide (0 < x) = b then 0 else 1) + chg (b :: r) = _
   lia
theorem marks_zeros (l : List Int) (n : Nat) : aR (l ++ List.replicate n 0) = aR l := by
 unfold aR
 erw [List.filter_append]
 have : (List.replicate n (0 : Int)).filter (fun x => decide (x ≠ 0)) = [] := by
  erw [List.filter_eq_nil_iff]; intro x hx; have := List.eq_of_mem_replicate hx; simp [this]
 erw [this, List.append_nil]
noncomputable def seg (a : Nat → Int) (s : Nat) : Nat → List Int
 | 0 => [a s]
 | m + 1 => a s :: seg a (s + 1) m
noncomputable def sf (x : Int) : Fin 3 := if 0 < x then 2 else if x = 0 then 1 else 0
noncomputable def ps (x y : Fin 3) : Fin 3 := if x = 1 ∨ y = 1 then 1 else if x = y then 2 else 0
theorem bF (x : Int) : (0 < x ∧ sf x = 2) ∨ (x = 0 ∧ sf x = 1) ∨ (x < 0 ∧ sf x = 0) := by
 rcases Int.lt_trichotomy x 0 with h | h | h
 · exact .inr (.inr ⟨h, by unfold sf; erw [if_neg (by lia), if_neg (by lia)]⟩)
 · exact .inr (.inl ⟨h, by subst h; rfl⟩)
 · exact .inl ⟨h, by unfold sf; erw [if_pos h]⟩
theorem qc (x y : Int) : sf (x * y) = ps (sf x) (sf y) := by
 rcases bF x with ⟨h, e⟩ | ⟨h, e⟩ | ⟨h, e⟩ <;> rcases bF y with ⟨k, f⟩ | ⟨k, f⟩ | ⟨k, f⟩ <;> erw [e, f]
 · have := Int.mul_pos h k
   rcases bF (x * y) with ⟨g, e⟩ | ⟨g, e⟩ | ⟨g, e⟩ <;> first | (erw [e]; rfl) | (exfalso; lia)
 · subst k; erw [Int.mul_zero]; rfl
 · have := Int.mul_neg_of_pos_of_neg h k
   rcases bF (x * y) with ⟨g, e⟩ | ⟨g, e⟩ | ⟨g, e⟩ <;> first | (erw [e]; rfl) | (exfalso; lia)
 · subst h; erw [Int.zero_mul]; rfl
 · subst h; erw [Int.zero_mul]; rfl
 · subst h; erw [Int.zero_mul]; rfl
 · have := Int.mul_neg_of_neg_of_pos h k
   rcases bF (x * y) with ⟨g, e⟩ | ⟨g, e⟩ | ⟨g, e⟩ <;> first | (erw [e]; rfl) | (exfalso; lia)
 · subst k; erw [Int.mul_zero]; rfl
 · have := Int.mul_pos_of_neg_of_neg h k
   rcases bF (x * y) with ⟨g, e⟩ | ⟨g, e⟩ | ⟨g, e⟩ <;> first | (erw [e]; rfl) | (exfalso; lia)
theorem sf_W {x y x' y' : Int} (h : 0 < x' * y - x * y') : ¬ (ps (sf x') (sf y) ≤ 1 ∧ 1 ≤ ps (sf x) (sf y')) := by
 rw [← qc, ← qc]
 rcases bF (x' * y) with ⟨g, e⟩ | ⟨g, e⟩ | ⟨g, e⟩ <;> rcases bF (x * y') with ⟨g', e'⟩ | ⟨g', e'⟩ | ⟨g', e'⟩ <;> erw [e, e'] <;> first | decide | (exfalso; lia)
theorem oA : ∀ (X Y X' Y' : Fin 3) (α β : Bool), ¬ (ps X' Y ≤ 1 ∧ 1 ≤ ps X Y') → (X' = 1 → α = decide (Y' = 2)) → (Y' = 1 → β = !decide (X' = 2)) → (X' ≠ 1 → α = decide (X' = 2)) → (Y' ≠ 1 → β = decide (Y' = 2)) →
 ((if (if X = 1 then α else decide (X = 2)) = (if Y = 1 then β else decide (Y = 2)) then 0 else 1) + (if Y = 1 then 0 else if decide (Y = 2) = β then 0 else 1) = (if α = β then 0 else 1) + (if X = 1 then 0 else if decide (X = 2) = α then 0 else 1)) ∧
 (X = 1 → (if X = 1 then α else decide (X = 2)) = decide (Y = 2)) ∧ (Y = 1 → (if Y = 1 then β else decide (Y = 2)) = !decide (X = 2)) := by decide
theorem cy (x : Int) : sf x = 1 ↔ x = 0 := by
 rcases bF x with ⟨h, e⟩ | ⟨h, e⟩ | ⟨h, e⟩ <;> erw [e]
 · exact ⟨fun q => absurd q (by decide), fun q => by lia⟩
 · exact ⟨fun ux => h, fun ux => rfl⟩
 · exact ⟨fun q => absurd q (by decide), fun q => by lia⟩
theorem cH (x : Int) : decide (sf x = 2) = decide (0 < x) := by
 rcases bF x with ⟨h, e⟩ | ⟨h, e⟩ | ⟨h, e⟩ <;> erw [e]
 · erw [decide_eq_true h]; rfl
 · erw [decide_eq_false (show ¬ 0 < x by lia)]; rfl
 · erw [decide_eq_false (show ¬ 0 < x by lia)]; rfl
structure Inv (a b : Nat → Int) (s m : Nat) (α β : Bool) : Prop where
 fa : fs (seg a s m) = some α
 fb : fs (seg b s m) = some β
 v : vr (seg a s m) = vr (seg b s m) + (if α = β then 0 else 1)
 a0 : a s = 0 → α = decide (0 < b s)
 b0 : b s = 0 → β = !decide (0 < a s)
 a1 : a s ≠ 0 → α = decide (0 < a s)
 b1 : b s ≠ 0 → β = decide (0 < b s)
theorem ke (x : Int) {l : List Int} {α : Bool} (e : fs l = some α) : fs (x :: l) = some (if sf x = 1 then α else decide (sf x = 2)) := by
 by_cases h : x = 0
 · subst h; erw [fs_zero, e]; rfl
 · erw [fs_ne h, if_neg (fun q => h ((cy x).mp q)), cH]
theorem jP (x : Int) {l : List Int} {α : Bool} (e : fs l = some α) : vr (x :: l) = vr l + (if sf x = 1 then 0 else if decide (sf x = 2) = α then 0 else 1) := by
 by_cases h : x = 0
 · subst h; erw [vr_zero]; rfl
 · erw [vr_ne h e, if_neg (fun q => h ((cy x).mp q)), cH]
theorem Inv.step {a b : Nat → Int} {s m : Nat} {α β : Bool} (I : Inv a b (s + 1) m α β) (h : 0 < Wr a b s) : ∃ α' β', Inv a b s (m + 1) α' β' := by
 have T := oA (sf (a s)) (sf (b s)) (sf (a (s + 1))) (sf (b (s + 1))) α β (sf_W h) (fun q => by erw [cH]; exact I.a0 ((cy _).mp q)) (fun q => by erw [cH]; exact I.b0 ((cy _).mp q))
  (fun q => by erw [cH]; exact I.a1 fun z => q ((cy _).mpr z)) (fun q => by erw [cH]; exact I.b1 fun z => q ((cy _).mpr z))
 refine ⟨_, _, ke (a s) I.fa, ke (b s) I.fb, ?_, fun q => ?_, fun q => ?_, fun q => ?_, fun q => ?_⟩
 · show vr (a s :: seg a (s + 1) m) = vr (b s :: seg b (s + 1) m) + _
   erw [jP (a s) I.fa, jP (b s) I.fb, I.v]
   have := T.1
   lia
 · rw [← cH]; exact T.2.1 ((cy _).mpr q)
 · rw [← cH (a s)]; exact T.2.2 ((cy _).mpr q)
 · erw [if_neg fun z => q ((cy _).mp z), cH]
 · erw [if_neg fun z => q ((cy _).mp z), cH]
theorem Inv.of {a b : Nat → Int} {n : Nat} (ha : a (n + 1) = 1) (hb : b (n + 1) = 0) (hb' : b n = 1) : ∀ (m s : Nat), s + m = n → (∀ k, s ≤ k → k < n → 0 < Wr a b k) → ∃ α β, Inv a b s (m + 1) α β
 | 0, s, e, _ => by
   have e : s = n := by lia
   subst e
   have f1 : fs [a (s + 1)] = some true := by erw [ha]; rfl
   have m1 : aR (seg b s 1) = [true] := by show aR [b s, b (s + 1)] = _; erw [hb, hb']; rfl
   refine ⟨_, true, ke (a s) f1, by unfold fs; erw [m1]; rfl, ?_, fun q => ?_, fun q => by lia, fun q => ?_, fun ux => by erw [hb']; rfl⟩
   · show vr (a s :: [a (s + 1)]) = _
     erw [jP (a s) f1, ha]
     unfold vr; erw [m1]
     show 0 + _ = 0 + _
     split <;> simp
   · erw [if_pos ((cy _).mpr q), hb']; rfl
   · erw [if_neg fun z => q ((cy _).mp z), cH]
 | m + 1, s, e, h => by
   obtain ⟨α, β, I⟩ := Inv.of ha hb hb' m (s + 1) (by lia) fun k h1 h2 => h k (by lia) h2
   exact I.step (h s (Nat.le_refl _) (by lia))
theorem iV {f : Nat → Int} : ∀ (t s m : Nat), (∀ j, s ≤ j → j < s + t → f j = 0) → aR (seg f s (t + m)) = aR (seg f (s + t) m)
 | 0, s, m, _ => by erw [Nat.zero_add]; rfl
 | t + 1, s, m, h => by
   erw [show t + 1 + m = (t + m) + 1 from by lia]
   show aR (f s :: seg f (s + 1) (t + m)) = _
   erw [h s (Nat.le_refl _) (by lia), bM, iV t (s + 1) m fun j h1 h2 => h j (by lia) (by lia)]
   erw [show s + 1 + t = s + (t + 1) from by lia]
theorem iU {f : Nat → Int} : ∀ (m s : Nat), (∀ j, s ≤ j → f j = 0) → aR (seg f s m) = []
 | 0, s, h => by show aR [f s] = []; erw [h s (Nat.le_refl _)]; rfl
 | m + 1, s, h => by
   show aR (f s :: seg f (s + 1) m) = []
   erw [h s (Nat.le_refl _), bM]
   exact iU m (s + 1) fun j hj => h j (by lia)
theorem dR {f : Nat → Int} : ∀ (m s t : Nat), (∀ j, s + m < j → f j = 0) → aR (seg f s (m + t)) = aR (seg f s m)
 | 0, s, 0, _ => rfl
 | 0, s, t + 1, h => by
   erw [show 0 + (t + 1) = t + 1 from by lia]
   show aR (f s :: seg f (s + 1) t) = aR [f s]
   have := iU (f := f) t (s + 1) fun j hj => h j (by lia)
   by_cases q : f s = 0
   · erw [q, bM, this]; rfl
   · erw [df q, df q, this]; rfl
 | m + 1, s, t, h => by
   erw [show m + 1 + t = (m + t) + 1 from by lia]
   show aR (f s :: seg f (s + 1) (m + t)) = aR (f s :: seg f (s + 1) m)
   have := dR m (s + 1) t fun j hj => h j (by lia)
   by_cases q : f s = 0
   · rw [q, bM, bM, this] at ⊢
   · erw [df q, df q, this]
theorem lU {f : Nat → Int} : ∀ (t s m : Nat), (∀ j, s ≤ j → j < s + t → f j = 0) → f (s + t) ≠ 0 → lz (seg f s (t + m)) = t
 | 0, s, m, _, h => by
   erw [Nat.zero_add]
   rw [Nat.add_zero] at h
   cases m with
   | zero => exact if_neg h
   | succ m => exact if_neg h
 | t + 1, s, m, h, h2 => by
   erw [show t + 1 + m = (t + m) + 1 from by lia]
   show (if f s = 0 then lz (seg f (s + 1) (t + m)) + 1 else 0) = t + 1
   erw [if_pos (h s (Nat.le_refl _) (by lia)), lU t (s + 1) m (fun j h1 h2 => h j (by lia) (by lia)) (by erw [show s + 1 + t = s + (t + 1) from by lia]; exact h2)]
theorem least {f : Nat → Int} {n : Nat} (h : f n ≠ 0) : ∃ m, m ≤ n ∧ f m ≠ 0 ∧ ∀ j, j < m → f j = 0 := by
 induction n using Nat.strongRecOn with
 | ind n ih =>
   by_cases q : ∃ j, j < n ∧ f j ≠ 0
   · obtain ⟨j, hj, hf⟩ := q
     obtain ⟨m, h1, h2, h3⟩ := ih j hj hf
     exact ⟨m, by lia, h2, h3⟩
   · exact ⟨n, Nat.le_refl _, h, fun j hj => Classical.byContradiction fun z => q ⟨j, hj, z⟩⟩
section
variable {V : List Nat} {E : List cA} {d : Nat → Int}
theorem oQ (G : Gr V E) {S : Nat → Bool} {v : Nat} (hm : v ∈ V) (hv : S v = true) (k : Nat) : 0 ≤ Wr (pl V d E S) (pl V d E (rm S v)) k :=
 Int.le_trans ((cw (d := d) G _ (rm S v) rfl).1 k) ((cw (d := d) G _ S rfl).2 v hm hv k)
theorem Wr_pos (G : Gr V E) {S : Nat → Bool} {v : Nat} (hm : v ∈ V) (hv : S v = true) {m : Nat} (hb : pl V d E (rm S v) m ≠ 0) {k : Nat} (h1 : m ≤ k) (h2 : k < sz S V) :
 0 < Wr (pl V d E S) (pl V d E (rm S v)) k := by
 have hsz := cF hv G.nd hm
 have h := (cw (d := d) G _ S rfl).2 v hm hv k
 have h0 := (cw (d := d) G _ (rm S v) rfl).1 k
 by_cases q : Nw (pl V d E (rm S v)) k = 0
 · exact absurd (mt (d := d) G _ _ rfl k (by lia) q m h1) hb
 · lia
theorem o8 (G : Gr V E) {S : Nat → Bool} {v : Nat} (hm : v ∈ V) (hv : S v = true) {m : Nat} (hb : ∀ j, j < m → pl V d E (rm S v) j = 0) (hml : m < sz S V) : ∀ j, j + 1 < m → pl V d E S j = 0 := by
 intro j hj
 have hsz := cF hv G.nd hm
 have hW : Wr (pl V d E S) (pl V d E (rm S v)) j = 0 := by
  unfold Wr; erw [hb j (by lia), hb (j + 1) hj]; simp
 have ez := (gz G hm hv hW).2
 erw [eI (d := d) G.nd hm E G.ne S hv j]
 have z : nb v (rm S v) (fun u => pl V d E (rm (rm S v) u) j) E = 0 := by
  refine ew fun e he => ⟨fun e1 hs => ?_, fun e1 hs => ?_⟩
  · rcases (ez e he).1 e1 hs with q | q
    · erw [q]; simp
    · have h2 := cF hs G.nd (G.inV e he).2
      erw [mt (d := d) G _ _ rfl j (by lia) q j (Nat.le_refl _)]; simp
  · rcases (ez e he).2 e1 hs with q | q
    · erw [q]; simp
    · have h2 := cF hs G.nd (G.inV e he).1
      erw [mt (d := d) G _ _ rfl j (by lia) q j (Nat.le_refl _)]; simp
 erw [z]
 cases j with
 | zero => simp only [mx, pr]; erw [hb 0 (by lia)]; simp
 | succ j => simp only [mx, pr]; erw [hb j (by lia), hb (j + 1) (by lia)]; simp
inductive Told (a b : Nat → Int) (m M : Nat) : Prop
 | out (m' : Nat) (hm : m = m' + 1) (h : a m' ≠ 0) (v : vr (seg a 0 M) = vr (seg b 0 M) + 1) (z : lz (seg a 0 M) + 1 = lz (seg b 0 M))
 | neg (h0 : ∀ j, j < m → a j = 0) (h : a m * b m < 0) (v : vr (seg a 0 M) = vr (seg b 0 M) + 1) (z : lz (seg a 0 M) = lz (seg b 0 M))
 | pos (h0 : ∀ j, j < m → a j = 0) (h : 0 < a m * b m) (v : vr (seg a 0 M) = vr (seg b 0 M)) (z : lz (seg a 0 M) = lz (seg b 0 M))
 | nul (h0 : ∀ j, j < m → a j = 0) (h1 : a m = 0) (h : 0 < a (m + 1) * b m) (v : vr (seg a 0 M) = vr (seg b 0 M)) (z : lz (seg a 0 M) = lz (seg b 0 M) + 1)
theorem told (G : Gr V E) {S : Nat → Bool} {v : Nat} (hm : v ∈ V) (hv : S v = true) {M : Nat} (hM : sz S V ≤ M) :
 ∃ m, (∀ j, j < m → pl V d E (rm S v) j = 0) ∧ pl V d E (rm S v) m ≠ 0 ∧ m < sz S V ∧ (∀ j, j + 1 < m → pl V d E S j = 0) ∧ Told (pl V d E S) (pl V d E (rm S v)) m M := by
 have hsz := cF hv G.nd hm
 have Da := gi (d := d) G.nd E G.ne G.inV S
 have Db := gi (d := d) G.nd E G.ne G.inV (rm S v)
 obtain ⟨m, m1, m2, m3⟩ := least (f := pl V d E (rm S v)) (n := sz (rm S v) V) (by erw [Db.2]; decide)
 have hlz := o8 G hm hv m3 (by lia)
 refine ⟨m, m3, m2, by lia, hlz, ?_⟩
 obtain ⟨n, hn⟩ : ∃ n, sz (rm S v) V = n := ⟨_, rfl⟩
 have hn2 : sz S V = n + 1 := by lia
 rw [hn] at m1 Db
 rw [hn2] at Da
 have hWp := fun k h1 h2 => Wr_pos (d := d) G hm hv m2 (k := k) h1 h2
 have hW1 := fun k => oQ (d := d) G hm hv k
 rw [hn2] at hWp
 generalize pl V d E S = a at *
 generalize pl V d E (rm S v) = b at *
 obtain ⟨α, β, I⟩ := Inv.of (a := a) (b := b) Da.2 (Db.1 _ (Nat.lt_succ_self _)) Db.2 (n - m) m (by lia) fun k h1 h2 => hWp k h1 (by lia)
 have rows : ∀ (f : Nat → Int) (s : Nat), s ≤ n + 1 → (∀ j, j < s → f j = 0) → (∀ j, n + 1 < j → f j = 0) → aR (seg f 0 M) = aR (seg f s (n + 1 - s)) := fun f s h1 h2 h3 => by
  have e := iV (f := f) s 0 (M - s) fun j ux hj => h2 j (by lia)
  rw [show s + (M - s) = M from by lia, Nat.zero_add] at e
  erw [e]
  have e' := dR (f := f) (n + 1 - s) s (M - s - (n + 1 - s)) fun j hj => h3 j (by lia)
  rw [show n + 1 - s + (M - s - (n + 1 - s)) = M - s from by lia] at e'
  exact e'
 have lzs : ∀ (f : Nat → Int) (s : Nat), s ≤ n + 1 → (∀ j, j < s → f j = 0) → f s ≠ 0 → lz (seg f 0 M) = s := fun f s h1 h2 h3 => by
  have e := lU (f := f) s 0 (M - s) (fun j ux hj => h2 j (by lia)) (by erw [Nat.zero_add]; exact h3)
  rwa [show s + (M - s) = M from by lia] at e
 have rb := rows b m (by lia) m3 fun j hj => Db.1 j (by lia)
 have lb := lzs b m (by lia) m3 m2
 have em : n - m + 1 = n + 1 - m := by lia
 by_cases hout : ∃ m', m = m' + 1 ∧ a m' ≠ 0
 · obtain ⟨m', rfl, hne⟩ := hout
   have hW : 0 < Wr a b m' := by
    have h := hW1 m'
    have e : Wr a b m' = - (a m' * b (m' + 1)) := by unfold Wr; erw [m3 m' (Nat.lt_succ_self _)]; simp
    have h2 : a m' * b (m' + 1) ≠ 0 := Int.mul_ne_zero hne m2
    lia
   obtain ⟨α', β', J⟩ := I.step hW
   have ra := rows a m' (by lia) (fun j hj => hlz j (by lia)) fun j hj => Da.1 j (by lia)
   have rb' := rows b m' (by lia) (fun j hj => m3 j (by lia)) fun j hj => Db.1 j (by lia)
   have la := lzs a m' (by lia) (fun j hj => hlz j (by lia)) hne
   refine .out m' rfl hne ?_ (by lia)
   unfold vr
   erw [ra, rb']
   have hv := J.v
   rw [show n - (m' + 1) + 1 + 1 = n + 1 - m' from by lia] at hv
   unfold vr at hv
   erw [hv, J.b0 (m3 m' (Nat.lt_succ_self _)), J.a1 hne]
   cases decide (0 < a m') <;> rfl
 · have h0 : ∀ j, j < m → a j = 0 := fun j hj => by
    by_cases q : j + 1 < m
    · exact hlz j q
    · exact Classical.byContradiction fun z => hout ⟨j, by lia, z⟩
   have ra := rows a m (by lia) h0 fun j hj => Da.1 j (by lia)
   have hv := I.v
   rw [em] at hv
   unfold vr at hv
   rw [← ra, ← rb] at hv
   have hβ := I.b1 m2
   rcases Int.lt_trichotomy (a m * b m) 0 with q | q | q
   · have ha : a m ≠ 0 := fun z => by rw [z] at q; simp at q
     refine .neg h0 q ?_ (by erw [lzs a m (by lia) h0 ha, lb])
     show chg _ = chg _ + 1
     erw [hv, hβ, I.a1 ha]
     have : decide (0 < a m) ≠ decide (0 < b m) := by
      rcases Int.lt_trichotomy (a m) 0 with x | x | x
      · have : 0 < b m := Int.lt_of_not_ge fun y => by have := Int.mul_nonneg_of_nonpos_of_nonpos (Int.le_of_lt x) y; lia
        erw [decide_eq_false (by lia), decide_eq_true this]; decide
      · exact absurd x ha
      · have : b m < 0 := Int.lt_of_not_ge fun y => by have := Int.mul_nonneg (Int.le_of_lt x) y; lia
        erw [decide_eq_true x, decide_eq_false (by lia)]; decide
     erw [if_neg this]
   · have ha : a m = 0 := (Int.mul_eq_zero.mp q).resolve_right m2
     have hW := hWp m (Nat.le_refl _) (by lia)
     unfold Wr at hW
     rw [ha] at hW
     have hp : 0 < a (m + 1) * b m := by simpa using hW
     have ha1 : a (m + 1) ≠ 0 := fun z => by rw [z] at hp; simp at hp
     refine .nul h0 ha hp ?_ ?_
     · show chg _ = chg _
       erw [hv, hβ, I.a0 ha, if_pos rfl]; rfl
     · erw [lzs a (m + 1) (by lia) (fun j hj => by rcases Nat.lt_or_ge j m with x | x; exact h0 j x; erw [show j = m from by lia]; exact ha) ha1, lb]
   · have ha : a m ≠ 0 := fun z => by rw [z] at q; simp at q
     refine .pos h0 q ?_ (by erw [lzs a m (by lia) h0 ha, lb])
     show chg _ = chg _
     erw [hv, hβ, I.a1 ha]
     have : decide (0 < a m) = decide (0 < b m) := by
      rcases Int.lt_trichotomy (a m) 0 with x | x | x
      · have : b m < 0 := Int.lt_of_not_ge fun y => by have := Int.mul_nonpos_of_nonpos_of_nonneg (Int.le_of_lt x) y; lia
        erw [decide_eq_false (show ¬ 0 < a m by lia), decide_eq_false (show ¬ 0 < b m by lia)]
      · exact absurd x ha
      · have : 0 < b m := Int.lt_of_not_ge fun y => by have := Int.mul_nonpos_of_nonneg_of_nonpos (Int.le_of_lt x) y; lia
        erw [decide_eq_true x, decide_eq_true this]
     erw [if_pos this]; rfl
end
section
variable {V : List Nat} {E : List cA} {d : Nat → Int}
theorem dS {f : Nat → Int} {m m' : Nat} (h1 : ∀ j, j < m → f j = 0) (h2 : f m ≠ 0) (h3 : ∀ j, j < m' → f j = 0) (h4 : f m' ≠ 0) : m = m' := by
 rcases Nat.lt_trichotomy m m' with h | h | h
 · exact absurd (h3 m h) h2
 · exact h
 · exact absurd (h1 m' h) h4
noncomputable def Rel (a b : Nat → Int) (t0 t1 : Int) : Prop :=
 ∀ m, (∀ j, j < m → b j = 0) → b m ≠ 0 → (t0 = 0 ∧ t1 = 0 ∧ ∃ m', m = m' + 1 ∧ a m' ≠ 0) ∨ (t1 ≠ 0 ∧ (∀ j, j < m → a j = 0) ∧ a m * t1 = - t0 * b m)
noncomputable def KF (b B : Nat → Int) (t0 t1 : Int) (m : Nat) : Prop :=
 (t0 = 0 ∧ t1 = 0 ∧ pr B m = 0 ∧ B m = 0) ∨ (t0 = 0 ∧ t1 ≠ 0 ∧ 0 < b m * pr B m ∧ 0 < m) ∨ (t0 ≠ 0 ∧ t1 ≠ 0 ∧ pr B m = 0 ∧ b m * t1 = - t0 * B m)
theorem kf_of (G : Gr V E) {F : Nat → Bool} {k : Nat} (hm : k ∈ V) (hk : F k = true) {t0 t1 : Int} (R : Rel (pl V d E F) (pl V d E (rm F k)) t0 t1) {m : Nat} (h1 : ∀ j, j < m → pl V d E F j = 0) (h2 : pl V d E F m ≠ 0) :
 KF (pl V d E F) (pl V d E (rm F k)) t0 t1 m := by
 obtain ⟨mk, a1, a2, _, a4, T⟩ := told (d := d) G hm hk (Nat.le_refl _)
 generalize pl V d E F = b at *
 generalize pl V d E (rm F k) = B at *
 rcases R mk a1 a2 with ⟨r1, r2, m', rfl, r4⟩ | ⟨r1, r2, r3⟩
 · have e : m = m' := dS h1 h2 (fun j hj => a4 j (by lia)) r4
   subst e
   refine .inl ⟨r1, r2, ?_, a1 m (Nat.lt_succ_self _)⟩
   cases m with
   | zero => rfl
   | succ m => exact a1 m (by lia)
 · by_cases hz : t0 = 0
   · subst hz
     have hb0 : b mk = 0 := by
      have : b mk * t1 = 0 := by erw [r3]; simp
      exact (Int.mul_eq_zero.mp this).resolve_right r1
     cases T with
     | out m' e h _ _ => exact absurd (r2 m' (by lia)) h
     | neg _ h _ _ => rw [hb0] at h; simp at h
     | pos _ h _ _ => rw [hb0] at h; simp at h
     | nul h0 _ h _ _ =>
       have e : m = mk + 1 := dS h1 h2 (fun j hj => by rcases Nat.lt_or_ge j mk with x | x; exact r2 j x; erw [show j = mk from by lia]; exact hb0) (fun z => by rw [z] at h; simp at h)
       subst e
       exact .inr (.inl ⟨rfl, r1, h, by lia⟩)
   · have hb : b mk ≠ 0 := fun z => by
      rw [z] at r3
      have : t0 * B mk = 0 := by grind
      rcases Int.mul_eq_zero.mp this with q | q
      · exact hz q
      · exact a2 q
     have e : m = mk := dS h1 h2 r2 hb
     subst e
     refine .inr (.inr ⟨hz, r1, ?_, r3⟩)
     cases m with
     | zero => rfl
     | succ m => exact a1 m (by lia)
end
noncomputable abbrev JS := Int × Int × Nat × List Int
noncomputable def bh (wt : Int) (t : (Int × Int) × List Int) (st : JS) : JS :=
 if t.1.1 = 0 then (st.1, st.2.1, st.2.2.1 + (if t.1.2 ≠ 0 then 1 else 0), st.2.2.2 ++ t.2)
 else (st.1 * t.1.1 - wt ^ 2 * t.1.2 * st.2.1, st.2.1 * t.1.1, st.2.2.1, st.2.2.2 ++ t.2 ++ [if 0 < t.1.1 * t.1.2 then 1 else -1])
noncomputable def cG (r : JS) : (Int × Int) × List Int :=
 if 0 < r.2.2.1 then ((0, 0), r.2.2.2 ++ (List.replicate (r.2.2.1 - 1) 0 ++ [1, -1])) else ((r.1, r.2.1), r.2.2.2)
noncomputable def aC (ks : List Nat) (par : Nat → Nat) (v : Nat) : List Nat := ks.filter fun k => par k == v
noncomputable def jt (ks : List Nat) (par : Nat → Nat) (d w : Nat → Int) : Nat → Nat → (Int × Int) × List Int
 | 0, _ => ((0, 0), [])
 | n + 1, v => cG ((aC ks par v).foldl (fun st k => bh (w k) (jt ks par d w n k) st) (d v, 1, 0, []))
noncomputable def bZ (l : List Nat) (f : Nat → Int) : Int := (l.map f).sum
theorem eU (f : Nat → Int) : bZ [] f = 0 := rfl
theorem bO (k : Nat) (l : List Nat) (f : Nat → Int) : bZ (k :: l) f = f k + bZ l f := by simp [bZ]
theorem mS {par : Nat → Nat} {w : Nat → Int} {v : Nat} {F : Nat → Bool} {f : Nat → Int} : ∀ {ks : List Nat}, (∀ k ∈ ks, (k = v → F (par k) = false) ∧ (par k = v → F k = true)) →
 nb v F f (ks.map fun k => (k, par k, w k ^ 2)) = bZ (aC ks par v) fun k => w k ^ 2 * f k
 | [], _ => rfl
 | k :: ks, h => by
   erw [List.map_cons, fh, mS (ks := ks) fun x hx => h x (.tail _ hx)]
   obtain ⟨h1, h2⟩ := h k (.head _)
   unfold aC
   erw [List.filter_cons]
   erw [if_neg (show ¬ (k = v ∧ F (par k) = true) from fun q => by rw [h1 q.1] at q; cases q.2)]
   by_cases q : par k = v
   · erw [if_pos ⟨q, h2 q⟩, if_pos (by simp [q]), bO]; lia
   · erw [if_neg (fun x => q x.1), if_neg (by simp [q])]; lia
theorem jfold {b : Nat → Int} {B : Nat → Nat → Int} {T : Nat → (Int × Int) × List Int} {w : Nat → Int} {m : Nat} (hb : b m ≠ 0) (hw : ∀ k, w k ≠ 0) : ∀ (l : List Nat) (st : JS) (p q : Int),
 (∀ k ∈ l, KF b (B k) (T k).1.1 (T k).1.2 m) → st.2.1 ≠ 0 → (st.2.2.1 = 0 → p * st.2.1 = - st.1 * b m ∧ q = 0) → (0 < st.2.2.1 → 0 < b m * q ∧ 0 < m) →
 let r := l.foldl (fun st k => bh (w k) (T k) st) st
 r.2.1 ≠ 0 ∧ (r.2.2.1 = 0 → (p - bZ l fun k => w k ^ 2 * B k m) * r.2.1 = - r.1 * b m ∧ q + (bZ l fun k => w k ^ 2 * pr (B k) m) = 0) ∧ (0 < r.2.2.1 → 0 < b m * (q + bZ l fun k => w k ^ 2 * pr (B k) m) ∧ 0 < m)
 | [], st, p, q, _, h1, h2, h3 => by
   refine ⟨h1, fun h => ?_, fun h => ?_⟩
   · erw [eU, eU]; have := h2 h; exact ⟨by erw [Int.sub_zero]; exact this.1, by lia⟩
   · erw [eU]; have := h3 h; exact ⟨by erw [Int.add_zero]; exact this.1, this.2⟩
 | k :: l, st, p, q, hk, h1, h2, h3 => by
   have hkf := hk k (.head _)
   have wpos : 0 < w k ^ 2 := by
    have := hw k
    erw [Int.pow_succ, Int.pow_succ, Int.pow_zero, Int.one_mul]
    rcases Int.lt_trichotomy (w k) 0 with x | x | x
    · exact Int.mul_pos_of_neg_of_neg x x
    · exact absurd x this
    · exact Int.mul_pos x x
   have nq : 0 ≤ b m * q := by
    rcases Nat.eq_zero_or_pos st.2.2.1 with x | x
    · erw [(h2 x).2]; simp
    · exact Int.le_of_lt (h3 x).1
   have IH := jfold (B := B) (T := T) hb hw l (bh (w k) (T k) st) (p - w k ^ 2 * B k m) (q + w k ^ 2 * pr (B k) m) (fun x hx => hk x (.tail _ hx))
   have e1 : ∀ f : Nat → Int, p - w k ^ 2 * B k m - bZ l f = p - (w k ^ 2 * B k m + bZ l f) := fun f => by lia
   have e2 : ∀ f : Nat → Int, q + w k ^ 2 * pr (B k) m + bZ l f = q + (w k ^ 2 * pr (B k) m + bZ l f) := fun f => by lia
   intro r
   show r.2.1 ≠ 0 ∧ _
   erw [bO, bO, ← e1, ← e2]
   refine IH ?_ ?_ ?_
   · unfold bh; split
     · exact h1
     · exact Int.mul_ne_zero h1 (by assumption)
   · unfold bh
     rcases hkf with ⟨x0, x1, x2, x3⟩ | ⟨x0, x1, x2, x3⟩ | ⟨x0, x1, x2, x3⟩
     · erw [if_pos x0]
       dsimp only
       erw [if_neg (by simp [x1])]
       intro h
       erw [x2, x3]
       have := h2 h
       exact ⟨by erw [Int.mul_zero, Int.sub_zero]; exact this.1, by erw [this.2]; simp⟩
     · erw [if_pos x0]
       dsimp only
       erw [if_pos x1]
       intro h; lia
     · erw [if_neg x0]
       dsimp only
       intro h
       have := h2 h
       erw [x2]
       refine ⟨?_, by erw [this.2]; simp⟩
       have e := this.1
       generalize w k ^ 2 = W at *
       grind
   · unfold bh
     rcases hkf with ⟨x0, x1, x2, x3⟩ | ⟨x0, x1, x2, x3⟩ | ⟨x0, x1, x2, x3⟩
     · erw [if_pos x0]
       dsimp only
       erw [if_neg (by simp [x1])]
       intro h
       erw [x2]
       have := h3 h
       exact ⟨by erw [Int.mul_zero, Int.add_zero]; exact this.1, this.2⟩
     · erw [if_pos x0]
       intro _
       refine ⟨?_, x3⟩
       have : 0 < w k ^ 2 * (b m * pr (B k) m) := Int.mul_pos wpos x2
       have e : b m * (q + w k ^ 2 * pr (B k) m) = b m * q + w k ^ 2 * (b m * pr (B k) m) := by grind
       lia
     · erw [if_neg x0]
       dsimp only
       intro h
       erw [x2]
       have := h3 h
       exact ⟨by erw [Int.mul_zero, Int.add_zero]; exact this.1, this.2⟩
structure Tr (N : Nat) (ks : List Nat) (par : Nat → Nat) (w : Nat → Int) : Prop where
 k1 : ∀ k ∈ ks, 1 ≤ k ∧ k < N ∧ par k < k
 w0 : ∀ k, w k ≠ 0
noncomputable abbrev ed (ks : List Nat) (par : Nat → Nat) (w : Nat → Int) : List cA := ks.map fun k => (k, par k, w k ^ 2)
theorem Tr.gr {N : Nat} {ks : List Nat} {par : Nat → Nat} {w : Nat → Int} (T : Tr N ks par w) : Gr (List.range N) (ed ks par w) where
 nd := List.nodup_range
 ne := fun e he => by
  obtain ⟨k, hk, rfl⟩ := List.mem_map.mp he
  have := T.k1 k hk
  dsimp only; lia
 inV := fun e he => by
  obtain ⟨k, hk, rfl⟩ := List.mem_map.mp he
  have := T.k1 k hk
  simp only [List.mem_range]; lia
 pos := fun e he => by
  obtain ⟨k, hk, rfl⟩ := List.mem_map.mp he
  dsimp only
  erw [Int.pow_succ, Int.pow_succ, Int.pow_zero, Int.one_mul]
  rcases Int.le_total 0 (w k) with h | h
  · exact Int.mul_nonneg h h
  · exact Int.mul_nonneg_of_nonpos_of_nonpos h h
noncomputable def qo (ks : List Nat) (par : Nat → Nat) (S : Nat → Bool) : Prop := ∀ k ∈ ks, S (par k) = true → S k = true
theorem pE {N : Nat} {ks : List Nat} {par : Nat → Nat} {d w : Nat → Int} (T : Tr N ks par w) : ∀ (n v : Nat), v < N → N - v ≤ n → ∀ S : Nat → Bool, qo ks par S → S v = true → (v ∈ ks → S (par v) = false) →
 Rel (pl (List.range N) d (ed ks par w) S) (pl (List.range N) d (ed ks par w) (rm S v)) (jt ks par d w n v).1.1 (jt ks par d w n v).1.2
 | 0, v, h1, h2, _, _, _, _ => by lia
 | n + 1, v, h1, h2, S, hc, hv, hp => by
   have G := T.gr
   have hmem : v ∈ List.range N := List.mem_range.mpr h1
   have hcF : qo ks par (rm S v) := fun k hk hx => by
    obtain ⟨x1, x2⟩ := fW hx
    have hS := hc k hk x1
    by_cases q : k = v
    · subst q; rw [hp hk] at x1; cases x1
    · erw [cz q]; exact hS
   have kid : ∀ k ∈ ks, par k = v → rm S v k = true := fun k hk e => by
    have := T.k1 k hk
    erw [cz (by lia)]
    exact hc k hk (by erw [e]; exact hv)
   intro m b1 b2
   obtain ⟨m', c1, c2, c3, c4, _⟩ := told (d := d) G hmem hv (Nat.le_refl _)
   have : m = m' := dS b1 b2 c1 c2
   subst this
   have hkf : ∀ k ∈ aC ks par v, KF (pl (List.range N) d (ed ks par w) (rm S v)) (pl (List.range N) d (ed ks par w) (rm (rm S v) k)) (jt ks par d w n k).1.1 (jt ks par d w n k).1.2 m := fun k hk => by
    obtain ⟨k1, k2⟩ := List.mem_filter.mp hk
    have k2 : par k = v := beq_iff_eq.mp k2
    have := T.k1 k k1
    exact kf_of G (List.mem_range.mpr this.2.1) (kid k k1 k2) (pE T n k this.2.1 (by lia) (rm S v) hcF (kid k k1 k2) fun ux => by erw [k2, cU]) b1 b2
   have J := jfold (B := fun k => pl (List.range N) d (ed ks par w) (rm (rm S v) k)) (T := fun k => jt ks par d w n k) b2 T.w0 (aC ks par v) (d v, 1, 0, []) (- d v * pl (List.range N) d (ed ks par w) (rm S v) m) 0 hkf
    (by show (1 : Int) ≠ 0; decide) (fun ux => ⟨by grind, rfl⟩) (fun h => by simp at h)
   dsimp only at J
   obtain ⟨j1, j2, j3⟩ := J
   have ea : ∀ k, pl (List.range N) d (ed ks par w) S k = mx (d v) (pl (List.range N) d (ed ks par w) (rm S v)) k - bZ (aC ks par v) fun x => w x ^ 2 * pl (List.range N) d (ed ks par w) (rm (rm S v) x) k := fun k => by
    erw [eI (d := d) G.nd hmem _ G.ne S hv k, mS]
    intro x hx
    refine ⟨fun e => ?_, kid x hx⟩
    subst e
    have := T.k1 x hx
    erw [cz (by lia)]; exact hp hx
   have hpr : pr (pl (List.range N) d (ed ks par w) (rm S v)) m = 0 := by
    cases m with
    | zero => rfl
    | succ m => exact b1 m (Nat.lt_succ_self _)
   have low : ∀ m', m = m' + 1 → pl (List.range N) d (ed ks par w) S m' = - bZ (aC ks par v) fun x => w x ^ 2 * pr (pl (List.range N) d (ed ks par w) (rm (rm S v) x)) m := fun m' e => by
    subst e
    erw [ea m']
    have : mx (d v) (pl (List.range N) d (ed ks par w) (rm S v)) m' = 0 := by
     unfold mx
     erw [b1 m' (Nat.lt_succ_self _)]
     cases m' with
     | zero => simp [pr]
     | succ m' => simp only [pr]; erw [b1 m' (by lia)]; simp
    erw [this]
    simp only [pr]
    lia
   show (((cG _).1.1 = 0 ∧ (cG _).1.2 = 0 ∧ _) ∨ ((cG _).1.2 ≠ 0 ∧ _ ∧ _ * (cG _).1.2 = - (cG _).1.1 * _))
   generalize List.foldl (fun st k => bh (w k) (jt ks par d w n k) st) (d v, 1, 0, []) (aC ks par v) = r at *
   unfold cG
   by_cases hno : 0 < r.2.2.1
   · erw [if_pos hno]
     left
     obtain ⟨x1, x2⟩ := j3 hno
     refine ⟨rfl, rfl, m - 1, by lia, fun z => ?_⟩
     have e := low (m - 1) (by lia)
     rw [z] at e
     rw [Int.zero_add] at x1
     have : (bZ (aC ks par v) fun x => w x ^ 2 * pr (pl (List.range N) d (ed ks par w) (rm (rm S v) x)) m) = 0 := by lia
     rw [this] at x1
     simp at x1
   · erw [if_neg hno]
     right
     obtain ⟨x1, x2⟩ := j2 (by lia)
     refine ⟨j1, fun j hj => ?_, ?_⟩
     · by_cases q : j + 1 < m
       · exact c4 j q
       · have e := low j (by lia)
         erw [e]; lia
     · show pl (List.range N) d (ed ks par w) S m * r.2.1 = - r.1 * _
       rw [← x1, ea m]
       unfold mx
       erw [hpr]
       grind
noncomputable def pvt (t : Int × Int) : Int := if t.1 = 0 then (if t.2 = 0 then 1 else 0) else if 0 < t.1 * t.2 then 1 else 0
noncomputable def zvt (t : Int × Int) : Int := if t.1 = 0 then (if t.2 = 0 then -1 else 1) else 0
noncomputable def nvt (t : Int × Int) : Int := if t.1 = 0 then (if t.2 = 0 then 1 else 0) else if 0 < t.1 * t.2 then 0 else 1
theorem pzn (t : Int × Int) : pvt t + zvt t + nvt t = 1 := by
 unfold pvt zvt nvt
 repeat' split
 all_goals lia
theorem kF {a b : Nat → Int} {m M : Nat} {t0 t1 : Int} (h1 : ∀ j, j < m → b j = 0) (h2 : b m ≠ 0) (T : Told a b m M) (R : Rel a b t0 t1) :
 (vr (seg a 0 M) : Int) = vr (seg b 0 M) + pvt (t0, t1) ∧ (lz (seg a 0 M) : Int) = lz (seg b 0 M) + zvt (t0, t1) := by
 rcases R m h1 h2 with ⟨rfl, rfl, m', rfl, r4⟩ | ⟨r1, r2, r3⟩
 · have hp : pvt (0, 0) = 1 := rfl
   have hz : zvt (0, 0) = -1 := rfl
   erw [hp, hz]
   cases T with
   | out _ _ _ v z => lia
   | neg h0 _ _ _ => exact absurd (h0 m' (Nat.lt_succ_self _)) r4
   | pos h0 _ _ _ => exact absurd (h0 m' (Nat.lt_succ_self _)) r4
   | nul h0 _ _ _ _ => exact absurd (h0 m' (Nat.lt_succ_self _)) r4
 · have sq : 0 < b m * b m := by
    rcases Int.lt_trichotomy (b m) 0 with x | x | x
    · exact Int.mul_pos_of_neg_of_neg x x
    · exact absurd x h2
    · exact Int.mul_pos x x
   have sq1 : 0 < t1 * t1 := by
    rcases Int.lt_trichotomy t1 0 with x | x | x
    · exact Int.mul_pos_of_neg_of_neg x x
    · exact absurd x r1
    · exact Int.mul_pos x x
   have key : (a m * b m) * (t1 * t1) = - ((t0 * t1) * (b m * b m)) := by grind
   cases T with
   | out m' e h _ _ => exact absurd (r2 m' (by lia)) h
   | neg h0 h v z =>
     have l : (a m * b m) * (t1 * t1) < 0 := Int.mul_neg_of_neg_of_pos h sq1
     have l2 : 0 < t0 * t1 := Int.lt_of_not_ge fun y => by have := Int.mul_nonpos_of_nonpos_of_nonneg y (Int.le_of_lt sq); lia
     have ne : t0 ≠ 0 := fun z => by rw [z] at l2; simp at l2
     have hp : pvt (t0, t1) = 1 := by unfold pvt; erw [if_neg ne, if_pos l2]
     have hz : zvt (t0, t1) = 0 := by unfold zvt; erw [if_neg ne]
     erw [hp, hz]; lia
   | pos h0 h v z =>
     have l : 0 < (a m * b m) * (t1 * t1) := Int.mul_pos h sq1
     have l2 : t0 * t1 < 0 := Int.lt_of_not_ge fun y => by have := Int.mul_nonneg y (Int.le_of_lt sq); lia
     have ne : t0 ≠ 0 := fun z => by rw [z] at l2; simp at l2
     have hp : pvt (t0, t1) = 0 := by unfold pvt; erw [if_neg ne, if_neg (by dsimp only; lia)]
     have hz : zvt (t0, t1) = 0 := by unfold zvt; erw [if_neg ne]
     erw [hp, hz]; lia
   | nul h0 h1 h v z =>
     have e0 : t0 = 0 := by
      rw [h1, Int.zero_mul] at r3
      have : t0 * b m = 0 := by grind
      exact (Int.mul_eq_zero.mp this).resolve_right h2
     have hp : pvt (t0, t1) = 0 := by unfold pvt; erw [if_pos e0, if_neg r1]
     have hz : zvt (t0, t1) = 1 := by unfold zvt; erw [if_pos e0, if_neg r1]
     erw [hp, hz]; lia
noncomputable def cB (f : Nat → Int) : Nat → Nat → Int
 | _, 0 => 0
 | j, m + 1 => f j + cB f (j + 1) m
noncomputable def b7 (j : Nat) : Nat → Bool := fun x => decide (j ≤ x)
theorem rm_upTo (j : Nat) : rm (b7 j) j = b7 (j + 1) := by
 funext x
 unfold rm b7
 by_cases h : x = j
 · subst h; simp
 · by_cases q : j ≤ x
   · have : j + 1 ≤ x := by lia
     simp [h, q, this]
   · have : ¬ j + 1 ≤ x := by lia
     simp [q, this]
theorem iB {α β : Type} {f g : β → α → β} : ∀ {l : List α} {b : β}, (∀ a ∈ l, ∀ b, f b a = g b a) → l.foldl f b = l.foldl g b
 | [], _, _ => rfl
 | a :: l, b, h => by
   erw [List.foldl_cons, List.foldl_cons, h a (.head _) b]
   exact iB fun x hx => h x (.tail _ hx)
section
variable {N : Nat} {ks : List Nat} {par : Nat → Nat} {d w : Nat → Int}
theorem jr (T : Tr N ks par w) : ∀ (n n' v : Nat), N - v ≤ n → N - v ≤ n' → v < N → jt ks par d w n v = jt ks par d w n' v
 | 0, _, v, h, _, hv => by lia
 | _ + 1, 0, v, _, h, hv => by lia
 | n + 1, n' + 1, v, h, h', hv => by
   unfold jt
   erw [iB (l := aC ks par v) (g := fun st k => bh (w k) (jt ks par d w n' k) st)]
   intro k hk st
   obtain ⟨k1, k2⟩ := List.mem_filter.mp hk
   have k2 : par k = v := beq_iff_eq.mp k2
   have := T.k1 k k1
   erw [jr T n n' k (by lia) (by lia) this.2.1]
theorem chain (T : Tr N ks par w) {M : Nat} (hM : N ≤ M) : ∀ (m j : Nat), j + m = N →
 (vr (seg (pl (List.range N) d (ed ks par w) (b7 j)) 0 M) : Int) = cB (fun v => pvt (jt ks par d w N v).1) j m ∧ (lz (seg (pl (List.range N) d (ed ks par w) (b7 j)) 0 M) : Int) = cB (fun v => zvt (jt ks par d w N v).1) j m
 | 0, j, e => by
   have G := T.gr
   have e0 : sz (b7 j) (List.range N) = 0 := by
    unfold sz; erw [List.countP_eq_zero]; intro x hx; have := List.mem_range.mp hx; simp [b7]; lia
   have D := gi (d := d) G.nd _ G.ne G.inV (b7 j)
   rw [e0] at D
   generalize pl (List.range N) d (ed ks par w) (b7 j) = a at *
   have hm : aR (seg a 0 M) = [true] := by
    have := dR (f := a) 0 0 M fun j hj => D.1 j (by lia)
    rw [Nat.zero_add] at this
    erw [this]
    show aR [a 0] = _
    erw [D.2]; rfl
   have hl : lz (seg a 0 M) = 0 := by
    have := lU (f := a) 0 0 M (fun j ux hj => by lia) (by erw [Nat.zero_add, D.2]; decide)
    rwa [Nat.zero_add] at this
   erw [hl]
   unfold vr
   erw [hm]
   exact ⟨rfl, rfl⟩
 | m + 1, j, e => by
   have IH := chain T hM m (j + 1) (by lia)
   have G := T.gr
   have hj : j ∈ List.range N := List.mem_range.mpr (by lia)
   have hv : b7 j j = true := by simp [b7]
   have hsz : sz (b7 j) (List.range N) ≤ M := by
    have : sz (b7 j) (List.range N) ≤ (List.range N).length := List.countP_le_length
    rw [List.length_range] at this; lia
   obtain ⟨q, a1, a2, _, _, a5⟩ := told (d := d) G hj hv hsz
   have R := pE (d := d) T N j (by lia) (by lia) (b7 j) (fun k hk hx => by
    have := T.k1 k hk
    simp only [b7, decide_eq_true_eq] at hx ⊢; lia) hv fun hk => by
    have := T.k1 j hk
    simp only [b7, decide_eq_false_iff_not]; lia
   have C : (vr (seg _ 0 M) : Int) = vr (seg _ 0 M) + pvt (jt ks par d w N j).1 ∧ (lz (seg _ 0 M) : Int) = lz (seg _ 0 M) + zvt (jt ks par d w N j).1 := kF a1 a2 a5 R
   rw [rm_upTo] at C
   unfold cB
   exact ⟨by erw [C.1, IH.1]; lia, by erw [C.2, IH.2]; lia⟩
end
noncomputable def c1 (t : (Int × Int) × List Int) : Int := t.2.count 1 + (if t.1.1 = 0 then 0 else if 0 < t.1.1 * t.1.2 then 1 else 0)
noncomputable def c0 (t : (Int × Int) × List Int) : Int := t.2.count 0 + (if t.1.1 = 0 then (if t.1.2 = 0 then 0 else 1) else 0)
noncomputable def cn (t : (Int × Int) × List Int) : Int := t.2.count (-1) + (if t.1.1 = 0 then 0 else if 0 < t.1.1 * t.1.2 then 0 else 1)
theorem pN {T : Nat → (Int × Int) × List Int} {w : Nat → Int} : ∀ (l : List Nat) (st : JS), st.2.1 ≠ 0 →
 let r := l.foldl (fun st k => bh (w k) (T k) st) st
 r.2.1 ≠ 0 ∧ (r.2.2.2.count 1 : Int) = st.2.2.2.count 1 + bZ l (fun k => c1 (T k)) ∧ (r.2.2.2.count 0 : Int) + r.2.2.1 = st.2.2.2.count 0 + st.2.2.1 + bZ l (fun k => c0 (T k)) ∧
  (r.2.2.2.count (-1) : Int) = st.2.2.2.count (-1) + bZ l (fun k => cn (T k))
 | [], st, h => by
   refine ⟨h, ?_, ?_, ?_⟩ <;> erw [eU] <;> simp only [List.foldl_nil] <;> lia
 | k :: l, st, h => by
   have IH := pN (T := T) (w := w) l (bh (w k) (T k) st) (by
    unfold bh; split
    · exact h
    · exact Int.mul_ne_zero h (by assumption))
   erw [bO, bO, bO]
   intro r
   obtain ⟨i1, i2, i3, i4⟩ := IH
   refine ⟨i1, ?_, ?_, ?_⟩
   · have e : ((bh (w k) (T k) st).2.2.2.count 1 : Int) = st.2.2.2.count 1 + c1 (T k) := by
      unfold bh c1
      split
      · simp only [List.count_append, Int.natCast_add]; lia
      · split <;> simp [List.count_append, List.count_cons, List.count_nil] <;> lia
     show (r.2.2.2.count 1 : Int) = _
     have : (r.2.2.2.count 1 : Int) = _ := i2
     lia
   · have e : ((bh (w k) (T k) st).2.2.2.count 0 : Int) + (bh (w k) (T k) st).2.2.1 = st.2.2.2.count 0 + st.2.2.1 + c0 (T k) := by
      unfold bh c0
      by_cases z0 : (T k).1.1 = 0
      · erw [if_pos z0, if_pos z0]
        dsimp only
        by_cases z1 : (T k).1.2 = 0
        · erw [if_neg (by simp [z1]), if_pos z1]; simp only [List.count_append, Int.natCast_add, Nat.add_zero]; lia
        · erw [if_pos z1, if_neg z1]; simp only [List.count_append, Int.natCast_add]; lia
      · erw [if_neg z0, if_neg z0]
        dsimp only
        split <;> simp [List.count_append, List.count_cons, List.count_nil] <;> lia
     have : (r.2.2.2.count 0 : Int) + r.2.2.1 = _ := i3
     lia
   · have e : ((bh (w k) (T k) st).2.2.2.count (-1) : Int) = st.2.2.2.count (-1) + cn (T k) := by
      unfold bh cn
      split
      · simp only [List.count_append, Int.natCast_add]; lia
      · split <;> simp [List.count_append, List.count_cons, List.count_nil] <;> lia
     have : (r.2.2.2.count (-1) : Int) = _ := i4
     lia
theorem l9 {r : JS} (h : r.2.1 ≠ 0) : c1 (cG r) = r.2.2.2.count 1 + pvt (cG r).1 ∧ c0 (cG r) = (r.2.2.2.count 0 + r.2.2.1 : Int) + zvt (cG r).1 ∧ cn (cG r) = r.2.2.2.count (-1) + nvt (cG r).1 := by
 unfold cG
 by_cases q : 0 < r.2.2.1
 · erw [if_pos q]
   have h0 : (List.replicate (r.2.2.1 - 1) (0 : Int)).count 1 = 0 := by erw [List.count_replicate]; rfl
   have h2 : (List.replicate (r.2.2.1 - 1) (0 : Int)).count (-1) = 0 := by erw [List.count_replicate]; rfl
   have h1 : (List.replicate (r.2.2.1 - 1) (0 : Int)).count 0 = r.2.2.1 - 1 := by erw [List.count_replicate]; rfl
   refine ⟨?_, ?_, ?_⟩
   · unfold c1 pvt; dsimp only; erw [List.count_append, List.count_append, h0]; simp [List.count_cons, List.count_nil]
   · unfold c0 zvt; dsimp only; erw [List.count_append, List.count_append, h1]; simp [List.count_cons, List.count_nil]; lia
   · unfold cn nvt; dsimp only; erw [List.count_append, List.count_append, h2]; simp [List.count_cons, List.count_nil]
 · erw [if_neg q]
   refine ⟨?_, ?_, ?_⟩
   · unfold c1 pvt; dsimp only; erw [if_neg h]
   · unfold c0 zvt; dsimp only; erw [if_neg h, if_neg h]; lia
   · unfold cn nvt; dsimp only; erw [if_neg h]
theorem js {N : Nat} {ks : List Nat} {par : Nat → Nat} {d w : Nat → Int} (T : Tr N ks par w) {v : Nat} (hv : v < N) :
 c1 (jt ks par d w N v) = bZ (aC ks par v) (fun k => c1 (jt ks par d w N k)) + pvt (jt ks par d w N v).1 ∧
 c0 (jt ks par d w N v) = bZ (aC ks par v) (fun k => c0 (jt ks par d w N k)) + zvt (jt ks par d w N v).1 ∧
 cn (jt ks par d w N v) = bZ (aC ks par v) (fun k => cn (jt ks par d w N k)) + nvt (jt ks par d w N v).1 := by
 have e : jt ks par d w N v = cG ((aC ks par v).foldl (fun st k => bh (w k) (jt ks par d w N k) st) (d v, 1, 0, [])) := by
  cases N with
  | zero => lia
  | succ n =>
    show cG _ = _
    erw [iB (l := aC ks par v) (g := fun st k => bh (w k) (jt ks par d w (n + 1) k) st)]
    intro k hk st
    obtain ⟨k1, k2⟩ := List.mem_filter.mp hk
    have k2 : par k = v := beq_iff_eq.mp k2
    have := T.k1 k k1
    erw [jr T n (n + 1) k (by lia) (by lia) this.2.1]
 have J := pN (T := fun k => jt ks par d w N k) (w := w) (aC ks par v) (d v, 1, 0, []) (by show (1 : Int) ≠ 0; decide)
 dsimp only at J
 obtain ⟨j1, j2, j3, j4⟩ := J
 erw [e]
 have K := l9 j1
 simp only [List.count_nil] at j2 j3 j4
 erw [K.1, K.2.1, K.2.2]
 refine ⟨?_, ?_, ?_⟩ <;> lia
theorem dX (f g : Nat → Int) : ∀ m j, cB (fun v => f v + g v) j m = cB f j m + cB g j m
 | 0, j => rfl
 | m + 1, j => by unfold cB; erw [dX f g m]; lia
theorem mO (p : Nat) (x : Int) : ∀ m j, j ≤ p → p < j + m → cB (fun v => if p = v then x else 0) j m = x
 | 0, j, h, h' => absurd h' (Nat.not_lt.mpr h)
 | m + 1, j, h, h' => by
   unfold cB
   by_cases e : p = j
   · have z : ∀ m i, p < i → cB (fun v => if p = v then x else 0) i m = 0 := by
      intro m
      induction m with
      | zero => intro _ _; rfl
      | succ m ih => intro i hi; unfold cB; erw [if_neg (Nat.ne_of_lt hi), ih (i + 1) (Nat.lt_succ_of_lt hi)]; rfl
     erw [if_pos e, z m (j + 1) (e ▸ Nat.lt_succ_self _), Int.add_zero]
   · erw [if_neg e, mO p x m (j + 1) (Nat.lt_of_le_of_ne h (Ne.symm e)) (by erw [Nat.add_right_comm]; exact h'), Int.zero_add]
theorem eq {f g : Nat → Int} : ∀ m j, (∀ v, v < j + m → f v = g v) → cB f j m = cB g j m
 | 0, _, _ => rfl
 | m + 1, j, h => by
   unfold cB
   erw [h j (Nat.lt_add_of_pos_right (Nat.succ_pos m)), eq m (j + 1) fun v hv => h v (by rw [Nat.add_right_comm] at hv; exact hv)]
theorem ls {par : Nat → Nat} {c : Nat → Int} {n : Nat} : ∀ ks : List Nat, (∀ k ∈ ks, par k < n) → cB (fun v => bZ (aC ks par v) c) 0 n = bZ ks c
 | [], _ => by
   have z : ∀ m i, cB (fun ux => 0) i m = 0 := by
    intro m
    induction m with
    | zero => intro _; rfl
    | succ m ih => intro i; unfold cB; erw [ih]; rfl
   exact z n 0
 | k :: ks, h => by
   have e : ∀ v, bZ (aC (k :: ks) par v) c = (if par k = v then c k else 0) + bZ (aC ks par v) c := fun v => by
    unfold aC
    by_cases q : par k = v
    · erw [if_pos q, List.filter_cons_of_pos (p := fun k => par k == v) (beq_iff_eq.mpr q), bO]
    · erw [if_neg q, List.filter_cons_of_neg (p := fun k => par k == v) (fun z => q (beq_iff_eq.mp z)), Int.zero_add]
   erw [eq n 0 fun v ux => e v, dX, ls ks fun u hu => h u (.tail _ hu), mO _ _ n 0 (Nat.zero_le _) (by erw [Nat.zero_add]; exact h k (.head _)), bO]
theorem flat6 {par : Nat → Nat} {c o : Nat → Int} (hp : ∀ k ∈ [1, 2, 3, 4, 5], par k < k) (h : ∀ v, v < 6 → c v = bZ (aC [1, 2, 3, 4, 5] par v) c + o v) : c 0 = cB o 0 6 := by
 have e := eq (f := c) 6 0 fun v hv => h v (by rw [Nat.zero_add] at hv; exact hv)
 rw [dX, ls [1, 2, 3, 4, 5] fun k hk => Nat.lt_trans (hp k hk) (by revert k; decide)] at e
 have : cB c 0 6 = c 0 + bZ [1, 2, 3, 4, 5] c := rfl
 rw [this] at e
 generalize bZ [1, 2, 3, 4, 5] c = s at e
 generalize cB o 0 6 = t at e ⊢
 exact Int.add_left_cancel ((Int.add_comm s (c 0)).trans e)
theorem bsp_d {d d' : Nat → Int} {S : Nat → Bool} : ∀ {V : List Nat}, (∀ v ∈ V, S v = true → d v = d' v) → bsp d S V = bsp d' S V
 | [], _ => rfl
 | v :: V, h => by
   simp only [bsp]
   erw [bsp_d (V := V) fun u hu => h u (.tail _ hu)]
   cases q : S v with
   | false => rfl
   | true => erw [h v (.head _) q]
theorem pl_d {V : List Nat} {d d' : Nat → Int} : ∀ {E : List cA} {S : Nat → Bool}, (∀ v ∈ V, S v = true → d v = d' v) → pl V d E S = pl V d' E S
 | [], S, h => bsp_d h
 | (a, b, w) :: E, S, h => by
   funext k
   erw [bn, bn, pl_d (E := E) h, pl_d (E := E) (S := rm (rm S a) b) fun v hv hs => h v hv (fW (fW hs).1).1]
section
variable {V : List Nat} {E : List cA} {d d' : Nat → Int}
theorem oj (G : Gr V E) {S : Nat → Bool} {v : Nat} (hm : v ∈ V) (hv : S v = true) {M : Nat} (hM : sz S V ≤ M) (hd : d' v = d v + 1) (ho : ∀ u, u ≠ v → d' u = d u) :
 vr (seg (pl V d E S) 0 M) ≤ vr (seg (pl V d' E S) 0 M) ∧ vr (seg (pl V d E S) 0 M) + lz (seg (pl V d E S) 0 M) ≤ vr (seg (pl V d' E S) 0 M) + lz (seg (pl V d' E S) 0 M) := by
 have eb : ∀ S', S' v = false → pl V d' E S' = pl V d E S' := fun S' h => pl_d fun u ux hs => ho u fun q => by rw [q, h] at hs; cases hs
 have ea : ∀ k, pl V d' E S k = pl V d E S k - pl V d E (rm S v) k := fun k => by
  erw [eI (d := d') G.nd hm E G.ne S hv k, eI (d := d) G.nd hm E G.ne S hv k, eb _ (cU S v),
   show (fun u => pl V d' E (rm (rm S v) u) k) = fun u => pl V d E (rm (rm S v) u) k from funext fun u => by erw [eb _ (by simp [rm])]]
  unfold mx
  erw [hd]
  grind
 obtain ⟨m, h1, h2, _, _, T⟩ := told (d := d) G hm hv hM
 obtain ⟨m', h1', h2', _, _, T'⟩ := told (d := d') G hm hv hM
 rw [eb _ (cU S v)] at h1' h2' T'
 have : m = m' := dS h1 h2 h1' h2'
 subst this
 generalize pl V d E (rm S v) = b at *
 generalize pl V d E S = a at *
 generalize pl V d' E S = a' at *
 have sq : 0 < b m * b m := by
  rcases Int.lt_trichotomy (b m) 0 with x | x | x
  · exact Int.mul_pos_of_neg_of_neg x x
  · exact absurd x h2
  · exact Int.mul_pos x x
 have em : a' m * b m = a m * b m - b m * b m := by erw [ea m]; grind
 cases T with
 | out k e h v z =>
   have h' : a' k ≠ 0 := by erw [ea k, h1 k (by lia)]; lia
   cases T' with
   | out k' e' _ v' z' => lia
   | neg h0 _ _ _ => exact absurd (h0 k (by lia)) h'
   | pos h0 _ _ _ => exact absurd (h0 k (by lia)) h'
   | nul h0 _ _ _ _ => exact absurd (h0 k (by lia)) h'
 | neg h0 h v z =>
   cases T' with
   | out k' e' hk _ _ => exact absurd (by erw [ea k', h1 k' (by lia), h0 k' (by lia)]; rfl) hk
   | neg _ _ v' z' => lia
   | pos _ h' _ _ => lia
   | nul _ h' _ _ _ => rw [h', Int.zero_mul] at em; lia
 | pos h0 h v z =>
   cases T' with
   | out k' e' hk _ _ => exact absurd (by erw [ea k', h1 k' (by lia), h0 k' (by lia)]; rfl) hk
   | neg _ _ v' z' => lia
   | pos _ _ v' z' => lia
   | nul _ _ _ v' z' => lia
 | nul h0 h h3 v z =>
   rw [h, Int.zero_mul] at em
   cases T' with
   | out k' e' hk _ _ => exact absurd (by erw [ea k', h1 k' (by lia), h0 k' (by lia)]; rfl) hk
   | neg _ _ v' z' => lia
   | pos _ h' _ _ => lia
   | nul _ h' _ _ _ => rw [h', Int.zero_mul] at em; lia
end
theorem jo {V : List Nat} {E : List cA} (G : Gr V E) {S : Nat → Bool} (hS : ∀ v ∈ V, S v = true) {M : Nat} (hM : sz S V ≤ M) : ∀ (l : List Nat) (d d' : Nat → Int), l.Nodup → (∀ v ∈ l, v ∈ V) → (∀ v ∈ l, d' v = d v + 1) → (∀ u, u ∉ l → d' u = d u) →
 vr (seg (pl V d E S) 0 M) ≤ vr (seg (pl V d' E S) 0 M) ∧ vr (seg (pl V d E S) 0 M) + lz (seg (pl V d E S) 0 M) ≤ vr (seg (pl V d' E S) 0 M) + lz (seg (pl V d' E S) 0 M)
 | [], d, d', _, _, _, h => by
   have : d' = d := funext fun u => h u List.not_mem_nil
   subst this
   exact ⟨Nat.le_refl _, Nat.le_refl _⟩
 | v :: l, d, d', hn, hv, h1, h2 => by
   rw [List.nodup_cons] at hn
   have A := oj (d := d) (d' := fun u => if u = v then d u + 1 else d u) G (hv v (.head _)) (hS v (hv v (.head _))) hM (by simp) (fun u hu => by simp [hu])
   have B := jo G hS hM l (fun u => if u = v then d u + 1 else d u) d' hn.2 (fun u hu => hv u (.tail _ hu)) (fun u hu => by
    have : u ≠ v := fun q => hn.1 (q ▸ hu)
    simp [this, h1 u (.tail _ hu)]) (fun u hu => by
    by_cases q : u = v
    · subst q; simp [h1 u (.head _)]
    · simp [q]; exact h2 u (by simp [q, hu]))
   exact ⟨Nat.le_trans A.1 B.1, Nat.le_trans A.2 B.2⟩
noncomputable def cf (l : List Int) : Nat → Int := fun k => l.getD k 0
noncomputable def cJ (c a : Int) (r : List Int) : List Int := match List.zipWith (· + ·) (r.map (c * ·) ++ [0]) (0 :: r) with
 | [] => []
 | x :: l => (x + a) :: l
noncomputable def gk (c : Int) : List Int → List Int
 | [] => []
 | a :: l => cJ c a (gk c l)
theorem jM (c : Int) (r : List Int) : (List.zipWith (· + ·) (r.map (c * ·) ++ [0]) (0 :: r)).length = r.length + 1 := by simp
set_option tactic.hygienic true in
theorem jn (c a : Int) (r : List Int) : (cJ c a r).length = r.length + 1 := by
 have h := jM c r
 unfold cJ
 split
 · rename_i e; rw [e] at h; simp at h
 · rename_i e; rw [e] at h; simpa using h
theorem iO (c : Int) : ∀ l : List Int, (gk c l).length = l.length
 | [] => rfl
 | a :: l => by show (cJ c a _).length = _; erw [jn, iO c l]; rfl
theorem bY (x : Int) (l : List Int) : cf (x :: l) = fun k => match k with | 0 => x | k + 1 => cf l k := by
 funext k; cases k <;> rfl
theorem q0 (c : Int) : ∀ (r : List Int) (y : Int) (k : Nat), cf (List.zipWith (· + ·) (r.map (c * ·) ++ [0]) (y :: r)) k = c * cf r k + (match k with | 0 => y | k + 1 => cf r k)
 | [], y, k => by cases k with
   | zero => simp [cf]
   | succ k => simp [cf]
 | x :: r, y, k => by
   show cf ((c * x + y) :: List.zipWith (· + ·) (r.map (c * ·) ++ [0]) (x :: r)) k = _
   erw [bY]
   cases k with
   | zero => rfl
   | succ k =>
     dsimp only
     erw [q0 c r x k]
     erw [bY]
set_option tactic.hygienic true in
theorem kL (c a : Int) (r : List Int) (k : Nat) : cf (cJ c a r) k = (if k = 0 then a else 0) + mx (-c) (cf r) k := by
 have h := q0 c r 0
 have hl := jM c r
 unfold cJ
 split
 · rename_i e; rw [e] at hl; simp at hl
 · rename_i x l e
   rw [e] at h
   have := h k
   rw [bY] at this ⊢
   cases k with
   | zero => dsimp only at this ⊢; simp only [mx, pr, if_true]; erw [this]; grind
   | succ k => dsimp only at this ⊢; simp only [mx, pr]; erw [this]; erw [if_neg (by lia)]; grind
noncomputable def hs (c : Int) (p : Nat → Int) (s m : Nat) : Nat → Int := cf (gk c (seg p s m))
theorem cO (c : Int) (p : Nat → Int) (s k : Nat) : hs c p s 0 k = if k = 0 then p s else 0 := by
 show cf (cJ c (p s) []) k = _
 erw [kL]
 cases k <;> simp [mx, pr, cf]
theorem bT (c : Int) (p : Nat → Int) (s m k : Nat) : hs c p s (m + 1) k = (if k = 0 then p s else 0) + mx (-c) (hs c p (s + 1) m) k := kL c (p s) _ k
theorem mi (c w : Int) (p q : Nat → Int) : ∀ (m s k : Nat), hs c (fun j => p j - w * q j) s m k = hs c p s m k - w * hs c q s m k
 | 0, s, k => by erw [cO, cO, cO]; split <;> grind
 | m + 1, s, k => by
   erw [bT, bT, bT, show hs c (fun j => p j - w * q j) (s + 1) m = fun k => hs c p (s + 1) m k - w * hs c q (s + 1) m k from funext fun k => mi c w p q m (s + 1) k, pD]
   split <;> grind
theorem mI (c : Int) (p : Nat → Int) : ∀ (m s : Nat), (∀ j, s ≤ j → p j = 0) → ∀ k, hs c p s m k = 0
 | 0, s, h, k => by erw [cO, h s (Nat.le_refl _)]; simp
 | m + 1, s, h, k => by
   erw [bT, h s (Nat.le_refl _), show hs c p (s + 1) m = fun ux => 0 from funext fun k => mI c p m (s + 1) (fun j hj => h j (by lia)) k]
   cases k <;> simp [mx, pr]
theorem nh (c : Int) (p : Nat → Int) : ∀ (m s : Nat), p (s + m + 1) = 0 → ∀ k, hs c p s (m + 1) k = hs c p s m k
 | 0, s, h, k => by
   erw [bT, cO, show hs c p (s + 1) 0 = fun ux => 0 from funext fun k => by erw [cO]; rw [Nat.add_zero] at h; erw [h]; simp]
   cases k <;> simp [mx, pr]
 | m + 1, s, h, k => by
   erw [bT, bT c p s m, show hs c p (s + 1) (m + 1) = hs c p (s + 1) m from funext fun k => nh c p m (s + 1) (by erw [show s + 1 + m + 1 = s + (m + 1) + 1 from by lia]; exact h) k]
theorem hs_pr (c : Int) (p : Nat → Int) : ∀ (m s k : Nat), hs c (pr p) (s + 1) m k = hs c p s m k
 | 0, s, k => by erw [cO, cO]; rfl
 | m + 1, s, k => by
   erw [bT, bT, show hs c (pr p) (s + 1 + 1) m = hs c p (s + 1) m from funext fun k => hs_pr c p m (s + 1) k]; rfl
theorem hs_mx (c d : Int) (p : Nat → Int) (M : Nat) (h : p (M + 1) = 0) (k : Nat) : hs c (mx d p) 0 (M + 1) k = mx (d - c) (hs c p 0 (M + 1)) k := by
 have e : hs c (mx d p) 0 (M + 1) k = hs c (pr p) 0 (M + 1) k - d * hs c p 0 (M + 1) k := mi c d (pr p) p (M + 1) 0 k
 erw [e, bT c (pr p)]
 have e2 : hs c (pr p) (0 + 1) M = hs c p 0 (M + 1) := funext fun k => by
  erw [hs_pr, nh c p M 0 (by erw [Nat.zero_add]; exact h)]
 erw [e2]
 simp only [mx, pr]
 split <;> grind
theorem lO (c : Int) (d : Nat → Int) (S : Nat → Bool) (M : Nat) : ∀ (V : List Nat), V.length ≤ M + 1 → ∀ k, hs c (bsp d S V) 0 (M + 1) k = bsp (fun v => d v - c) S V k
 | [], _, k => by
   erw [bT, show hs c (bsp d S []) (0 + 1) M = fun ux => 0 from funext fun k => mI c _ M 1 (fun j hj => by simp only [bsp]; erw [if_neg (by lia)]) k]
   cases k <;> simp [mx, pr, bsp]
 | v :: V, h, k => by
   simp only [List.length_cons] at h
   cases q : S v with
   | false =>
     have e1 : bsp d S (v :: V) = bsp d S V := by simp [bsp, q]
     have e2 : bsp (fun v => d v - c) S (v :: V) = bsp (fun v => d v - c) S V := by simp [bsp, q]
     erw [e1, e2]; exact lO c d S M V (by lia) k
   | true =>
     have e1 : bsp d S (v :: V) = mx (d v) (bsp d S V) := by simp [bsp, q]
     have e2 : bsp (fun v => d v - c) S (v :: V) = mx (d v - c) (bsp (fun v => d v - c) S V) := by simp [bsp, q]
     have hz : sz S V ≤ V.length := List.countP_le_length
     erw [e1, e2, hs_mx c (d v) _ M ((jI (d := d) (S := S) (V := V)).1 _ (by lia))]
     erw [show hs c (bsp d S V) 0 (M + 1) = bsp (fun v => d v - c) S V from funext fun k => lO c d S M V (by lia) k]
theorem nj (c : Int) (d : Nat → Int) (V : List Nat) (M : Nat) (hV : V.length ≤ M + 1) : ∀ (E : List cA) (S : Nat → Bool) (k : Nat), hs c (pl V d E S) 0 (M + 1) k = pl V (fun v => d v - c) E S k
 | [], S, k => lO c d S M V hV k
 | (a, b, w) :: E, S, k => by
   erw [bn]
   cases q : (S a && S b) with
   | false => erw [cc q, nj c d V M hV E S k]; simp
   | true =>
     have e : pl V d ((a, b, w) :: E) S = fun j => pl V d E S j - w * pl V d E (rm (rm S a) b) j := by funext j; erw [bn, if_pos q]
     erw [e, mi, nj c d V M hV E S k, nj c d V M hV E _ k]; simp
theorem d6 (p : Nat → Int) : ∀ (m s : Nat), (seg p s m).length = m + 1
 | 0, _ => rfl
 | m + 1, s => by show (p s :: _).length = _; erw [List.length_cons, d6 p m]
theorem lR (p : Nat → Int) : ∀ (m s k : Nat), k ≤ m → cf (seg p s m) k = p (s + k)
 | 0, s, k, h => by have : k = 0 := by lia
                    subst this; rfl
 | m + 1, s, k, h => by
   show cf (p s :: seg p (s + 1) m) k = _
   erw [bY]
   cases k with
   | zero => rfl
   | succ k => dsimp only; erw [lR p m (s + 1) k (by lia)]; congr 1; lia
theorem qt {l l' : List Int} (h : l.length = l'.length) (e : ∀ k, k < l.length → cf l k = cf l' k) : l = l' := by
 refine List.ext_getElem h fun k h1 h2 => ?_
 have := e k h1
 unfold cf at this
 simpa [List.getD_eq_getElem?_getD, List.getElem?_eq_getElem h1, List.getElem?_eq_getElem h2] using this
theorem horn_pl (c : Int) (d : Nat → Int) (V : List Nat) (M : Nat) (hV : V.length ≤ M + 1) (E : List cA) (S : Nat → Bool) :
 gk c (seg (pl V d E S) 0 (M + 1)) = seg (pl V (fun v => d v - c) E S) 0 (M + 1) := by
 refine qt (by erw [iO, d6, d6]) fun k hk => ?_
 rw [iO, d6] at hk
 erw [lR _ _ _ _ (by lia), Nat.zero_add]
 exact nj c d V M hV E S k
noncomputable def cV {α : Type} (l : List α) (f : α → Int) : Int := (l.map f).sum
theorem dM {α : Type} (f : α → Int) : cV [] f = 0 := rfl
theorem bf {α : Type} (a : α) (l : List α) (f : α → Int) : cV (a :: l) f = f a + cV l f := by simp [cV]
theorem gJ {α : Type} (f : α → Int) : ∀ l l' : List α, cV (l ++ l') f = cV l f + cV l' f
 | [], l' => by erw [List.nil_append, dM]; lia
 | a :: l, l' => by erw [List.cons_append, bf, bf, gJ f l l']; lia
theorem qD {α β : Type} (g : α → β) (f : β → Int) (l : List α) : cV (l.map g) f = cV l fun a => f (g a) := by unfold cV; erw [List.map_map]; rfl
theorem nQ {α : Type} {f : α → Int} {l l' : List α} (h : l.Perm l') : cV l f = cV l' f := by
 induction h with
 | nil => rfl
 | cons a _ ih => erw [bf, bf, ih]
 | swap a b l => erw [bf, bf, bf, bf]; lia
 | trans _ _ ih1 ih2 => erw [ih1, ih2]
theorem iy {α : Type} {c : Int} {f g : α → Int} : ∀ {l : List α}, (∀ a ∈ l, f a = c * g a) → cV l f = c * cV l g
 | [], _ => by erw [dM, dM]; simp
 | a :: l, h => by erw [bf, bf, iy (l := l) fun x hx => h x (.tail _ hx), h a (.head _)]; grind
noncomputable def eG : List Nat → List (List Nat)
 | [] => [[]]
 | k :: ks => eG ks ++ (eG ks).map (k :: ·)
theorem nP (k : Nat) (ks : List Nat) : eG (k :: ks) = eG ks ++ (eG ks).map (k :: ·) := rfl
noncomputable def lB (w : Nat → Int) : List Nat → Int
 | [] => 1
 | k :: ks => - w k ^ 2 * lB w ks
noncomputable def ak (par : Nat → Nat) (ts : List Nat) : List Nat := ts ++ ts.map par
noncomputable def j9 (S : Nat → Bool) (X : List Nat) : Nat → Bool := fun x => S x && !X.contains x
noncomputable def G (V : List Nat) (par : Nat → Nat) (d w : Nat → Int) : List Nat → (Nat → Bool) → Nat → Int
 | [], S => bsp d S V
 | t :: ts, S => fun k => if (S t && S (par t)) = true then - w t ^ 2 * G V par d w ts (rm (rm S t) (par t)) k else 0
theorem j8 (V : List Nat) (par : Nat → Nat) (d w : Nat → Int) : ∀ (ks : List Nat) (S : Nat → Bool) (k : Nat), pl V d (ed ks par w) S k = cV (eG ks) fun ts => G V par d w ts S k
 | [], S, k => by show bsp d S V k = _; unfold eG; erw [bf, dM]; show _ = bsp d S V k + 0; lia
 | t :: ks, S, k => by
   show pl V d ((t, par t, w t ^ 2) :: ed ks par w) S k = _
   erw [bn, j8 V par d w ks S k]
   erw [nP, gJ, qD]
   cases q : (S t && S (par t)) with
   | false =>
     have : cV (eG ks) (fun a => G V par d w (t :: a) S k) = 0 * cV (eG ks) (fun ux => 0) := iy fun a ux => by unfold G; erw [if_neg (by erw [q]; decide)]; simp
     erw [this]; simp
   | true =>
     have : cV (eG ks) (fun a => G V par d w (t :: a) S k) = - w t ^ 2 * cV (eG ks) (fun a => G V par d w a (rm (rm S t) (par t)) k) := iy fun a ux => by
      show (if (S t && S (par t)) = true then - w t ^ 2 * G V par d w a (rm (rm S t) (par t)) k else 0) = _
      erw [if_pos q]
     erw [this, if_pos rfl, ← j8 V par d w ks (rm (rm S t) (par t)) k]
     generalize pl V d (ed ks par w) (rm (rm S t) (par t)) k = y
     generalize w t ^ 2 = z
     grind
theorem oF (par : Nat → Nat) (t : Nat) (ts : List Nat) : (ak par (t :: ts)).Perm (t :: par t :: ak par ts) := by
 unfold ak
 erw [List.map_cons, List.cons_append]
 exact List.Perm.cons _ List.perm_middle
theorem G_eq {V : List Nat} {par : Nat → Nat} {d w : Nat → Int} : ∀ {ts : List Nat}, (∀ t ∈ ts, par t ≠ t) → ∀ (S : Nat → Bool) (k : Nat),
 G V par d w ts S k = if (ak par ts).Nodup ∧ ∀ x ∈ ak par ts, S x = true then lB w ts * bsp d (j9 S (ak par ts)) V k else 0
 | [], _, S, k => by
   show bsp d S V k = _
   erw [if_pos ⟨List.nodup_nil, fun ux h => nomatch h⟩, show j9 S (ak par []) = S from funext fun x => by simp [j9, ak]]
   simp [lB]
 | t :: ts, h, S, k => by
   have ht := h t (.head _)
   have IH := G_eq (V := V) (d := d) (w := w) (ts := ts) fun x hx => h x (.tail _ hx)
   have P := oF par t ts
   have hmem : ∀ x, x ∈ ak par (t :: ts) ↔ x = t ∨ x = par t ∨ x ∈ ak par ts := fun x => by
    erw [P.mem_iff, List.mem_cons, List.mem_cons]
   have hnd : (ak par (t :: ts)).Nodup ↔ t ∉ ak par ts ∧ par t ∉ ak par ts ∧ (ak par ts).Nodup := by
    erw [P.nodup_iff, List.nodup_cons, List.nodup_cons, List.mem_cons]
    refine ⟨fun ⟨a, b, c⟩ => ⟨fun q => a (.inr q), b, c⟩, fun ⟨a, b, c⟩ => ⟨fun q => q.elim (fun q => ht q.symm) a, b, c⟩⟩
   unfold G
   by_cases q : (S t && S (par t)) = true
   · obtain ⟨q1, q2⟩ := Bool.and_eq_true_iff.mp q
     erw [if_pos q, IH]
     have hc : ((ak par ts).Nodup ∧ ∀ x ∈ ak par ts, rm (rm S t) (par t) x = true) ↔ ((ak par (t :: ts)).Nodup ∧ ∀ x ∈ ak par (t :: ts), S x = true) := by
      erw [hnd]
      constructor
      · rintro ⟨a, b⟩
        refine ⟨⟨fun z => ?_, fun z => ?_, a⟩, fun x hx => ?_⟩
        · have := b t z; simp [rm] at this
        · have := b _ z; simp [rm] at this
        · rcases (hmem x).mp hx with rfl | rfl | hx
          · exact q1
          · exact q2
          · exact (fW (fW (b x hx)).1).1
      · rintro ⟨⟨a, b, c⟩, e⟩
        refine ⟨c, fun x hx => ?_⟩
        erw [cz (fun z : x = par t => b (z ▸ hx)), cz (fun z : x = t => a (z ▸ hx))]
        exact e x ((hmem x).mpr (.inr (.inr hx)))
     have hs : j9 (rm (rm S t) (par t)) (ak par ts) = j9 S (ak par (t :: ts)) := by
      funext x
      have : (ak par (t :: ts)).contains x = ((x == t) || (x == par t) || (ak par ts).contains x) := by
       erw [Bool.eq_iff_iff]
       simp only [List.contains_iff_mem, Bool.or_eq_true, beq_iff_eq]
       erw [hmem x, or_assoc]
      unfold j9 rm
      erw [this]
      cases S x <;> cases (x == t) <;> cases (x == par t) <;> cases (ak par ts).contains x <;> rfl
     erw [hs]
     by_cases z : (ak par (t :: ts)).Nodup ∧ ∀ x ∈ ak par (t :: ts), S x = true
     · erw [if_pos z, if_pos (hc.mpr z)]
       simp only [lB]; grind
     · erw [if_neg z, if_neg fun y => z (hc.mp y)]; simp
   · erw [if_neg q, if_neg]
     rintro ⟨_, b⟩
     exact q (Bool.and_eq_true_iff.mpr ⟨b t ((hmem t).mpr (.inl rfl)), b _ ((hmem _).mpr (.inr (.inl rfl)))⟩)
noncomputable def cu (c : Int) (r : List Int) : List Int := List.zipWith (fun a b => b - c * a) (r ++ [0]) (0 :: r)
noncomputable def l6 (d : Nat → Int) (X : List Nat) (V : List Nat) : List Int := V.foldl (fun r k => if k ∈ X then r else cu (d k) r) [1]
noncomputable def gY (w : Nat → Int) (ts : List Nat) (r : List Int) : List Int := ts.foldl (fun r k => r.map fun a => - w k ^ 2 * a) r
noncomputable def am (mask : Nat) : List Nat := [1, 2, 3, 4, 5].filter fun k => (mask >>> (k - 1)) % 2 == 1
noncomputable def cI (par : Nat → Nat) (d w : Nat → Int) (total : List Int) (ts : List Nat) : List Int :=
 if (ak par ts).Nodup then List.zipWith (· + ·) total (gY w ts (l6 d (ak par ts) [0, 1, 2, 3, 4, 5]) ++ List.replicate 7 0) else total
noncomputable def b9 (par : Nat → Nat) (d w : Nat → Int) : List Int := ((List.range 32).map am).foldl (cI par d w) (List.replicate 7 0)
theorem oW (c : Int) (r : List Int) : (cu c r).length = r.length + 1 := by simp [cu]
theorem lg (c : Int) : ∀ (r : List Int) (y : Int) (k : Nat), cf (List.zipWith (fun a b => b - c * a) (r ++ [0]) (y :: r)) k = (match k with | 0 => y | k + 1 => cf r k) - c * cf r k
 | [], y, k => by cases k with
   | zero => simp [cf]
   | succ k => simp [cf]
 | x :: r, y, k => by
   show cf ((y - c * x) :: List.zipWith (fun a b => b - c * a) (r ++ [0]) (x :: r)) k = _
   erw [bY]
   cases k with
   | zero => rfl
   | succ k =>
     dsimp only
     erw [lg c r x k]
     erw [bY]
theorem qT (c : Int) (r : List Int) : cf (cu c r) = mx c (cf r) := by
 funext k
 unfold cu
 erw [lg c r 0 k]
 cases k <;> rfl
theorem po (c : Int) : ∀ (r : List Int) (k : Nat), cf (r.map fun a => c * a) k = c * cf r k
 | [], k => by simp [cf]
 | x :: r, k => by
   erw [List.map_cons, bY, bY]
   cases k with
   | zero => rfl
   | succ k => exact po c r k
theorem jf (d : Nat → Int) (S : Nat → Bool) (X : List Nat) (hS : ∀ k, S k = !X.contains k) : ∀ (V : List Nat) (r : List Int) (a : Nat → Int), (∀ W, W = V → True) → cf r = a →
 cf (V.foldl (fun r k => if k ∈ X then r else cu (d k) r) r) = V.foldl (fun a k => if S k = true then mx (d k) a else a) a
 | [], r, a, _, h => h
 | k :: V, r, a, _, h => by
   rw [List.foldl_cons, List.foldl_cons] at ⊢
   refine jf d S X hS V _ _ (fun ux ux => trivial) ?_
   erw [hS k]
   by_cases q : k ∈ X
   · erw [if_pos q, if_neg (by simp [q])]; exact h
   · erw [if_neg q, if_pos (by simp [q]), qT, h]
theorem gm (d : Nat → Int) (S : Nat → Bool) : ∀ (V : List Nat) (a : Nat → Int) (e : Int), V.foldl (fun a k => if S k = true then mx (d k) a else a) (mx e a) = mx e (V.foldl (fun a k => if S k = true then mx (d k) a else a) a)
 | [], _, _ => rfl
 | k :: V, a, e => by
   rw [List.foldl_cons, List.foldl_cons] at ⊢
   split
   · erw [nz, gm d S V (mx (d k) a) e]
   · exact gm d S V a e
theorem iC (d : Nat → Int) (S : Nat → Bool) : ∀ V : List Nat, V.foldl (fun a k => if S k = true then mx (d k) a else a) (fun k => if k = 0 then 1 else 0) = bsp d S V
 | [] => rfl
 | k :: V => by
   erw [List.foldl_cons]
   simp only [bsp]
   split
   · erw [gm, iC d S V]
   · exact iC d S V
theorem cf_one : cf [1] = fun k => if k = 0 then 1 else 0 := by funext k; cases k <;> rfl
theorem cf_brow (d : Nat → Int) (X V : List Nat) : cf (l6 d X V) = bsp d (j9 (fun ux => true) X) V := by
 unfold l6
 erw [jf d (j9 (fun ux => true) X) X (fun k => rfl) V [1] _ (fun ux ux => trivial) cf_one, iC]
theorem iW (d : Nat → Int) (X : List Nat) : ∀ (V : List Nat) (r : List Int), (V.foldl (fun r k => if k ∈ X then r else cu (d k) r) r).length ≤ r.length + V.length
 | [], r => Nat.le_refl _
 | k :: V, r => by
   erw [List.foldl_cons]
   have := iW d X V (if k ∈ X then r else cu (d k) r)
   have e : (if k ∈ X then r else cu (d k) r).length ≤ r.length + 1 := by
    split
    · lia
    · erw [oW]; lia
   erw [List.length_cons]; lia
theorem mG (w : Nat → Int) : ∀ (ts : List Nat) (r : List Int) (k : Nat), cf (gY w ts r) k = lB w ts * cf r k
 | [], r, k => by show cf r k = _; simp [lB]
 | t :: ts, r, k => by
   show cf (gY w ts (r.map fun a => - w t ^ 2 * a)) k = _
   erw [mG w ts _ k, po]
   simp only [lB]; grind
theorem iJ (w : Nat → Int) : ∀ (ts : List Nat) (r : List Int), (gY w ts r).length = r.length
 | [], _ => rfl
 | t :: ts, r => by show (gY w ts _).length = _; erw [iJ w ts, List.length_map]
theorem pS : ∀ (a b : List Int) (k : Nat), k < a.length → k < b.length → cf (List.zipWith (· + ·) a b) k = cf a k + cf b k
 | [], _, k, h, _ => by simp at h
 | _ :: _, [], k, _, h => by simp at h
 | x :: a, y :: b, k, h, h' => by
   erw [List.zipWith_cons_cons, bY, bY, bY]
   cases k with
   | zero => rfl
   | succ k =>
     simp only [List.length_cons] at h h'
     exact pS a b k (by lia) (by lia)
theorem pP (r : List Int) (n k : Nat) : cf (r ++ List.replicate n 0) k = cf r k := by
 unfold cf
 erw [List.getD_eq_getElem?_getD, List.getD_eq_getElem?_getD, List.getElem?_append]
 split
 · rfl
 · erw [List.getElem?_replicate]
   erw [List.getElem?_eq_none (by lia)]
   split <;> rfl
noncomputable def nE (par : Nat → Nat) (d w : Nat → Int) (ts : List Nat) (k : Nat) : Int := if (ak par ts).Nodup then lB w ts * bsp d (j9 (fun ux => true) (ak par ts)) [0, 1, 2, 3, 4, 5] k else 0
theorem ix (par : Nat → Nat) (d w : Nat → Int) : ∀ (l : List (List Nat)) (total : List Int), total.length = 7 → (l.foldl (cI par d w) total).length = 7 ∧ ∀ k, k < 7 → cf (l.foldl (cI par d w) total) k = cf total k + cV l fun ts => nE par d w ts k
 | [], total, h => ⟨h, fun k ux => by erw [dM]; simp⟩
 | ts :: l, total, h => by
   erw [List.foldl_cons]
   have e : (cI par d w total ts).length = 7 ∧ ∀ k, k < 7 → cf (cI par d w total ts) k = cf total k + nE par d w ts k := by
    unfold cI nE
    split
    · refine ⟨by simp [h], fun k hk => ?_⟩
      erw [pS _ _ _ (by lia) (by simp; lia), pP, mG, cf_brow]
    · exact ⟨h, fun k ux => by lia⟩
   have IH := ix par d w l _ e.1
   exact ⟨IH.1, fun k hk => by erw [IH.2 k hk, e.2 k hk, bf]; lia⟩
theorem l5 : ((List.range 32).map am).Perm (eG [1, 2, 3, 4, 5]) := by decide +kernel
theorem kY {par : Nat → Nat} {d w : Nat → Int} (hp : ∀ k ∈ [1, 2, 3, 4, 5], par k < k) : b9 par d w = seg (pl (List.range 6) d (ed [1, 2, 3, 4, 5] par w) (b7 0)) 0 6 := by
 have P := ix par d w ((List.range 32).map am) (List.replicate 7 0) (by simp)
 refine qt (by erw [d6]; exact P.1) fun k hk => ?_
 have hk : k < 7 := by rw [show (b9 par d w).length = 7 from P.1] at hk; exact hk
 erw [lR _ _ _ _ (by lia), Nat.zero_add, j8]
 show cf (List.foldl _ _ _) k = _
 erw [P.2 k hk, nQ l5]
 have z : cf (List.replicate 7 0) k = 0 := by
  have := pP [] 7 k
  rw [List.nil_append] at this
  erw [this]; simp [cf]
 erw [z, Int.zero_add]
 unfold cV
 congr 1
 refine List.map_congr_left fun ts hts => ?_
 have hin : ∀ {ks ts : List Nat}, ts ∈ eG ks → ∀ t ∈ ts, t ∈ ks := by
  intro ks
  induction ks with
  | nil => intro ts h t ht; simp only [eG, List.mem_singleton] at h; subst h; cases ht
  | cons a ks ih =>
    intro ts h t ht
    simp only [eG, List.mem_append, List.mem_map] at h
    rcases h with h | ⟨s, h, rfl⟩
    · exact .tail _ (ih h t ht)
    · cases ht with
      | head => exact .head _
      | tail _ ht => exact .tail _ (ih h t ht)
 erw [G_eq (fun t ht => by have := hp t (hin hts t ht); lia) (b7 0) k]
 unfold nE
 have e1 : b7 0 = fun ux => true := by funext x; simp [b7]
 erw [e1]
 by_cases q : (ak par ts).Nodup
 · erw [if_pos q, if_pos ⟨q, fun ux ux => rfl⟩]; rfl
 · erw [if_neg q, if_neg fun z => q z.1]
noncomputable def noughtsOf (row : List Int) : Nat := lz row
noncomputable def sgn (total : List Int) (c : Int) : Int × Int := (6 - lz (gk c total) - vr (gk c total), 6 - vr (gk c total))
noncomputable def bG (t : (Int × Int) × List Int) : List Int := if t.1 = (0, 0) then t.2 else t.2 ++ [if t.1.1 = 0 then 0 else if 0 < t.1.1 * t.1.2 then 1 else -1]
noncomputable def cnt (par : Nat → Nat) (d w : Nat → Int) (c : Int) : Int × Int :=
 let s := bG (jt [1, 2, 3, 4, 5] par (fun v => d v - c) w 6 0)
 ((s.count (-1) : Int), 6 - (s.count 1 : Int))
theorem jz {t : (Int × Int) × List Int} : ((bG t).count 1 : Int) = c1 t ∧ ((bG t).count (-1) : Int) = cn t := by
 unfold bG c1 cn
 obtain ⟨⟨t0, t1⟩, l⟩ := t
 dsimp only
 by_cases h0 : t0 = 0
 · subst h0
   by_cases h1 : t1 = 0
   · subst h1; erw [if_pos rfl]; simp
   · erw [if_neg (by simp [h1])]; simp [List.count_append, List.count_cons]
 · erw [if_neg (by simp [h0]), if_neg h0, if_neg h0, if_neg h0]
   by_cases h : 0 < t0 * t1
   · erw [if_pos h, if_pos h, if_pos h]; simp [List.count_append, List.count_cons]
   · erw [if_neg h, if_neg h, if_neg h]; simp [List.count_append, List.count_cons]
section
variable {par : Nat → Nat} {d w : Nat → Int}
theorem tr6 (hp : ∀ k ∈ [1, 2, 3, 4, 5], par k < k) (hw : ∀ k, w k ≠ 0) : Tr 6 [1, 2, 3, 4, 5] par w :=
 ⟨fun k hk => ⟨by simp only [List.mem_cons, List.not_mem_nil, or_false] at hk; lia, by simp only [List.mem_cons, List.not_mem_nil, or_false] at hk; lia, hp k hk⟩, hw⟩
theorem d7 (hp : ∀ k ∈ [1, 2, 3, 4, 5], par k < k) (c : Int) : gk c (b9 par d w) = seg (pl (List.range 6) (fun v => d v - c) (ed [1, 2, 3, 4, 5] par w) (b7 0)) 0 6 := by
 erw [kY hp]
 exact horn_pl c d (List.range 6) 5 (by simp) _ _
theorem cnt_eq (hp : ∀ k ∈ [1, 2, 3, 4, 5], par k < k) (hw : ∀ k, w k ≠ 0) (c : Int) : cnt par d w c = sgn (b9 par d w) c := by
 have T := tr6 hp hw
 have C := chain (d := fun v => d v - c) T (M := 6) (Nat.le_refl _) 6 0 rfl
 rw [← d7 (d := d) (w := w) hp c] at C
 have S := jz (t := jt [1, 2, 3, 4, 5] par (fun v => d v - c) w 6 0)
 have F1 := flat6 (c := fun v => c1 (jt [1, 2, 3, 4, 5] par (fun v => d v - c) w 6 v)) (o := fun v => pvt (jt [1, 2, 3, 4, 5] par (fun v => d v - c) w 6 v).1) hp fun v hv => (js (d := fun v => d v - c) T hv).1
 have Fn := flat6 (c := fun v => cn (jt [1, 2, 3, 4, 5] par (fun v => d v - c) w 6 v)) (o := fun v => nvt (jt [1, 2, 3, 4, 5] par (fun v => d v - c) w 6 v).1) hp fun v hv => (js (d := fun v => d v - c) T hv).2.2
 have U : cB (fun v => pvt (jt [1, 2, 3, 4, 5] par (fun v => d v - c) w 6 v).1) 0 6 + cB (fun v => zvt (jt [1, 2, 3, 4, 5] par (fun v => d v - c) w 6 v).1) 0 6 + cB (fun v => nvt (jt [1, 2, 3, 4, 5] par (fun v => d v - c) w 6 v).1) 0 6 = 6 := by
  rw [← dX, ← dX]
  erw [show (fun v => pvt (jt [1, 2, 3, 4, 5] par (fun v => d v - c) w 6 v).1 + zvt (jt [1, 2, 3, 4, 5] par (fun v => d v - c) w 6 v).1 + nvt (jt [1, 2, 3, 4, 5] par (fun v => d v - c) w 6 v).1) = fun ux => 1 from funext fun v => pzn _]
  rfl
 unfold cnt sgn
 dsimp only at F1 Fn ⊢
 erw [S.1, S.2, F1, Fn]
 refine Prod.ext ?_ ?_ <;> dsimp only <;> lia
theorem kJ (hp : ∀ k ∈ [1, 2, 3, 4, 5], par k < k) (hw : ∀ k, w k ≠ 0) (c : Int) : (sgn (b9 par d w) c).1 ≤ (sgn (b9 par d w) (c + 1)).1 ∧ (sgn (b9 par d w) c).2 ≤ (sgn (b9 par d w) (c + 1)).2 := by
 have T := tr6 hp hw
 have R := jo T.gr (S := b7 0) (fun v ux => by simp [b7]) (M := 6) (by
  have : sz (b7 0) (List.range 6) ≤ (List.range 6).length := List.countP_le_length
  rw [List.length_range] at this; exact this) (List.range 6) (fun v => d v - (c + 1)) (fun v => if v < 6 then d v - c else d v - (c + 1)) List.nodup_range (fun ux h => h)
  (fun v hv => by have := List.mem_range.mp hv; simp [this]; lia) (fun v hv => by have : ¬ v < 6 := fun q => hv (List.mem_range.mpr q); simp [this])
 rw [show pl (List.range 6) (fun v => if v < 6 then d v - c else d v - (c + 1)) (ed [1, 2, 3, 4, 5] par w) (b7 0) = pl (List.range 6) (fun v => d v - c) (ed [1, 2, 3, 4, 5] par w) (b7 0) from pl_d fun v hv ux => by have := List.mem_range.mp hv; simp [this]] at R
 unfold sgn
 erw [d7 hp, d7 hp]
 dsimp only
 lia
end
open PySem PySem.W PyProof.Rows PySem.Calls
set_option tactic.hygienic false
noncomputable def enO (P : Params) (x : Str) (t : Tok) (v : Value) : DictEntry := ⟨PyData.keyHash P x, .str x t, v⟩
noncomputable def fnO (i : Nat) (d k m c : Value) : Obj := match Challenge.pw_wb0032_01.main.body[i]? with
 | some (.FunctionDef n a b _ _ _ s _ _ _) => { cls := .type "function", data := .func { name := n, qualname := n, params := a, body := .stmts b, scope := s, globals := 3, closure := [], defaults := d, kwdefaults := k, pyModule := m, code := c } }
 | _ => { cls := .none, data := .plain }
noncomputable def cdO (n : Str) (t l na kw fl a : Nat) (v w : Value) (e u : Nat) : Obj := ⟨.type "code", none, .fields #[.str n t, .str n (t + 1), .str "/claim/cut.py" (t + 2), .int l 0, .int na 0, .int 0 0, .int kw 0, .int fl 0, .ref a, .bool true, .int 181 0, .ref (a + 1), .none, v, w, .ref e, .int u 0, .int l 0, .str "/claim/cut.py" (u + 1)], #[]⟩
noncomputable def hd.heap_39 (P : Params) : Frag :=
 (nat_lit 3, ⟨.type "dict", none, .dict #[enO P "__name__" 165 (.str "law_wb0032_01" 289), enO P "__doc__" 166 (.none), enO P "__package__" 167 (.none), enO P "__loader__" 168 (.builtin "__main__.__loader__#opaque"), enO P "__spec__" 169 (.none), enO P "__annotations__" 170 (.ref 6), enO P "__builtins__" 171 (.ref 4), enO P "__file__" 173 (.str "/claim/cut.py" 172), enO P "__cached__" 174 (.none), enO P "bisect_right" 202 (.ref 23), enO P "bisect_left" 216 (.ref 32), enO P "COMPILER_FLAG_NAMES" 249 (.ref 33), enO P "pretty_flags" 259 (.ref 40), enO P "_parse_varint" 268 (.ref 47), enO P "iselement" 277 (.ref 54), enO P "SubElement" 288 (.ref 63), enO P "_law_digits" 296 (.ref 68), enO P "_law_read" 305 (.ref 75), enO P "_law_parts" 311 (.ref 80), enO P "_law_element" 320 (.ref 87), enO P "_law_document" 326 (.ref 92), enO P "_law_walk" 340 (.ref 99), enO P "_law_counts" 351 (.ref 106), enO P "_law_polynomial" 357 (.ref 111), enO P "_law_signs" 363 (.ref 116), enO P "law" 369 (.ref 121)] 26, #[]⟩) ::
 (nat_lit 15, ⟨.type "tuple", none, .seq #[.int 0 189, .none] 0, #[]⟩) ::
 (nat_lit 16, ⟨.type "dict", none, .dict #[enO P "key" 190 (.none)] 1, #[]⟩) ::
 (nat_lit 22, cdO "bisect_right" 191 2 4 1 3 17 (.ref 19) (.ref 20) 21 200) ::
 (nat_lit 23, fnO 1 (.ref 15) (.ref 16) (.str "cpy313.bisect" 187) (.ref 22)) ::
 (nat_lit 24, ⟨.type "tuple", none, .seq #[.int 0 203, .none] 0, #[]⟩) ::
 (nat_lit 25, ⟨.type "dict", none, .dict #[enO P "key" 204 (.none)] 1, #[]⟩) ::
 (nat_lit 31, cdO "bisect_left" 205 22 4 1 3 26 (.ref 28) (.ref 29) 30 214) ::
 (nat_lit 32, fnO 2 (.ref 24) (.ref 25) (.str "cpy313.bisect" 187) (.ref 31)) ::
 (nat_lit 33, ⟨.type "dict", none, .dict #[⟨1, .int 1 219, .str "OPTIMIZED" 220⟩, ⟨2, .int 2 221, .str "NEWLOCALS" 222⟩, ⟨4, .int 4 223, .str "VARARGS" 224⟩, ⟨8, .int 8 225, .str "VARKEYWORDS" 226⟩, ⟨16, .int 16 227, .str "NESTED" 228⟩, ⟨32, .int 32 229, .str "GENERATOR" 230⟩, ⟨64, .int 64 231, .str "NOFREE" 232⟩, ⟨128, .int 128 233, .str "COROUTINE" 234⟩, ⟨256, .int 256 235, .str "ITERABLE_COROUTINE" 236⟩, ⟨512, .int 512 237, .str "ASYNC_GENERATOR" 238⟩] 10, #[]⟩) ::
 (nat_lit 39, cdO "pretty_flags" 250 44 1 0 3 34 (.ref 36) (.ref 37) 38 257) ::
 (nat_lit 40, fnO 5 (.none) (.none) (.str "cpy313.dis" 217) (.ref 39)) ::
 (nat_lit 46, cdO "_parse_varint" 260 56 1 0 3 41 (.ref 43) (.ref 44) 45 266) ::
 (nat_lit 47, fnO 6 (.none) (.none) (.str "cpy313.dis" 217) (.ref 46)) ::
 (nat_lit 53, cdO "iselement" 271 65 1 0 3 48 (.ref 50) (.ref 51) 52 275) ::
 (nat_lit 54, fnO 8 (.none) (.none) (.str "cpy313.xml.etree.ElementTree" 269) (.ref 53)) ::
 (nat_lit 55, ⟨.type "dict", none, .dict #[] 0, #[]⟩) ::
 (nat_lit 56, ⟨.type "tuple", none, .seq #[.ref 55] 0, #[]⟩) ::
 (nat_lit 62, cdO "SubElement" 278 67 3 0 11 57 (.ref 59) (.ref 60) 61 286) ::
 (nat_lit 63, fnO 9 (.ref 56) (.none) (.str "cpy313.xml.etree.ElementTree" 269) (.ref 62)) ::
 (nat_lit 67, cdO "_law_digits" 291 73 2 0 3 64 (.none) (.none) 66 294) ::
 (nat_lit 68, fnO 11 (.none) (.none) (.str "law_wb0032_01" 289) (.ref 67)) ::
 (nat_lit 74, cdO "_law_read" 297 76 2 0 3 69 (.ref 71) (.ref 72) 73 303) ::
 (nat_lit 75, fnO 12 (.none) (.none) (.str "law_wb0032_01" 289) (.ref 74)) ::
 (nat_lit 79, cdO "_law_parts" 306 82 1 0 3 76 (.none) (.none) 78 309) ::
 (nat_lit 80, fnO 13 (.none) (.none) (.str "law_wb0032_01" 289) (.ref 79)) ::
 (nat_lit 86, cdO "_law_element" 312 85 2 0 3 81 (.ref 83) (.ref 84) 85 318) ::
 (nat_lit 87, fnO 14 (.none) (.none) (.str "law_wb0032_01" 289) (.ref 86)) ::
 (nat_lit 91, cdO "_law_document" 321 93 2 0 3 88 (.none) (.none) 90 324) ::
 (nat_lit 92, fnO 15 (.none) (.none) (.str "law_wb0032_01" 289) (.ref 91)) ::
 (nat_lit 98, cdO "_law_walk" 327 111 3 0 3 93 (.ref 95) (.ref 96) 97 338) ::
 (nat_lit 99, fnO 16 (.none) (.none) (.str "law_wb0032_01" 289) (.ref 98)) ::
 (nat_lit 105, cdO "_law_counts" 341 124 3 0 3 100 (.ref 102) (.ref 103) 104 349) ::
 (nat_lit 106, fnO 17 (.none) (.none) (.str "law_wb0032_01" 289) (.ref 105)) ::
 (nat_lit 110, cdO "_law_polynomial" 352 132 2 0 3 107 (.none) (.none) 109 355) ::
 (nat_lit 111, fnO 18 (.none) (.none) (.str "law_wb0032_01" 289) (.ref 110)) ::
 (nat_lit 115, cdO "_law_signs" 358 148 2 0 3 112 (.none) (.none) 114 361) ::
 (nat_lit 116, fnO 19 (.none) (.none) (.str "law_wb0032_01" 289) (.ref 115)) ::
 (nat_lit 120, cdO "law" 364 157 1 0 3 117 (.none) (.none) 119 367) ::
 (nat_lit 121, fnO 20 (.none) (.none) (.str "law_wb0032_01" 289) (.ref 120)) :: []
set_option tactic.hygienic false
local macro_rules | `(tactic| obtain $p:rcasesPatMed) => `(tactic| (intro hx; rcases hx with $p:rcasesPatMed))
local macro_rules | `(tactic| obtain $x:ident) => `(tactic| rintro $x:ident)
local macro_rules | `(tactic| obtain ⟨$p:rcasesPatMed⟩) => `(tactic| obtain $p:rcasesPatMed)
local macro_rules | `(tactic| obtain ⟨$p1:rcasesPatMed, $ps,*⟩) => `(tactic| first | ((first | refine exI ?_ | refine andI ?_); obtain $p1:rcasesPatMed <;> obtain ⟨$ps,*⟩) | (intro hx; rcases hx with ⟨$p1:rcasesPatMed, $ps,*⟩))
local macro_rules | `(tactic| obtain ⟨$p1:rcasesPatMed, $p2:rcasesPatMed, $ps,*⟩) => `(tactic| (with_reducible refine and3I ?_; obtain $p1:rcasesPatMed <;> obtain $p2:rcasesPatMed <;> obtain ⟨$ps,*⟩))
local macro_rules | `(tactic| obtain ⟨$p1:rcasesPatMed, $p2:rcasesPatMed, $p3:rcasesPatMed, $ps,*⟩) => `(tactic| (with_reducible refine and4I ?_; obtain $p1:rcasesPatMed <;> obtain $p2:rcasesPatMed <;> obtain $p3:rcasesPatMed <;> obtain ⟨$ps,*⟩))
local macro_rules | `(tactic| obtain ⟨$ps,*⟩ := $e:term) => `(tactic| (refine goI $e ?_; (try clear $e:term); obtain ⟨$ps,*⟩))
noncomputable abbrev Mem := Addr → Option Obj
inductive D where
 | i (n : Int)
 | b (c : Bool)
 | s (x : Str)
 | n
 | l (xs : List D)
 | t (xs : List D)
 | v (x : Value)
 | g (Gs : Mem) (x : Value)
noncomputable def In (G : Mem) (h : Heap) : Prop := ∀ b o, G b = some o → h.get? b = some o
noncomputable def Le (G G' : Mem) : Prop := ∀ b o, G b = some o → G' b = some o
mutual
noncomputable def Rp (G : Mem) : D → Value → Prop
 | .i n, v => ∃ t, v = .int n t
 | .b c, v => v = .bool c
 | .s x, v => ∃ t, v = .str x t
 | .n, v => v = .none
 | .l xs, v => ∃ a vs k, v = .ref a ∧ G a = some { cls := .type "list", data := .seq vs k } ∧ RpL G xs vs.toList
 | .t xs, v => ∃ a vs o k, v = .ref a ∧ G a = some o ∧ o.cls = .type "tuple" ∧ o.data = .seq vs k ∧ RpL G xs vs.toList
 | .v x, v => v = x
 | .g Gs x, v => v = x ∧ Le Gs G
noncomputable def RpL (G : Mem) : List D → List Value → Prop
 | [], vs => vs = []
 | d :: ds, vs => ∃ v r, vs = v :: r ∧ Rp G d v ∧ RpL G ds r
end
mutual
theorem Rp.mono {G G' : Mem} (k : Le G G') : ∀ {d : D} {v : Value}, Rp G d v → Rp G' d v
 | .i _, _, x => x
 | .b _, _, x => x
 | .s _, _, x => x
 | .n, _, x => x
 | .v _, _, x => x
 | .g _ _, _, x => ⟨x.1, fun b o e => k b o (x.2 b o e)⟩
 | .l _, _, ⟨a, vs, n, e, g, r⟩ => ⟨a, vs, n, e, k _ _ g, RpL.mono k r⟩
 | .t _, _, ⟨a, vs, o, n, e, g, q, q', r⟩ => ⟨a, vs, o, n, e, k _ _ g, q, q', RpL.mono k r⟩
theorem RpL.mono {G G' : Mem} (k : Le G G') : ∀ {ds : List D} {vs : List Value}, RpL G ds vs → RpL G' ds vs
 | [], _, x => x
 | _ :: _, _, ⟨v, r, e, x, y⟩ => ⟨v, r, e, Rp.mono k x, RpL.mono k y⟩
end
theorem RpL.length {G : Mem} : ∀ {ds : List D} {vs : List Value}, RpL G ds vs → vs.length = ds.length
 | [], _, x => by subst x; rfl
 | _ :: _, _, ⟨v, r, e, _, y⟩ => by subst e; erw [List.length_cons, List.length_cons, RpL.length y]
theorem RpL.get {G : Mem} : ∀ {ds : List D} {vs : List Value}, RpL G ds vs → ∀ {k : Nat} {d : D}, ds[k]? = some d → ∃ v, vs[k]? = some v ∧ Rp G d v
 | [], _, _, _, _, e => by simp at e
 | d :: ds, _, ⟨v, r, e, x, y⟩, 0, d', h => by subst e; simp at h; subst h; exact ⟨v, rfl, x⟩
 | d :: ds, _, ⟨v, r, e, x, y⟩, k + 1, d', h => by subst e; simp at h; simpa using RpL.get y h
theorem RpL.append {G : Mem} : ∀ {ds es : List D} {vs us : List Value}, RpL G ds vs → RpL G es us → RpL G (ds ++ es) (vs ++ us)
 | [], _, _, _, x, y => by subst x; exact y
 | _ :: _, _, _, _, ⟨v, r, e, x, y⟩, z => by subst e; exact ⟨v, _, rfl, x, RpL.append y z⟩
theorem rc {G : Mem} {d : D} {ds : List D} {v : Value} {vs : List Value} (h : Rp G d v) (t : RpL G ds vs) : RpL G (d :: ds) (v :: vs) := ⟨_, _, rfl, h, t⟩
theorem rz {G : Mem} : RpL G [] [] := rfl
theorem re0 {G : Mem} {vs : List Value} {Z : List Value → Prop} (h : RpL G [] vs) (k : Z []) : Z vs := by subst h; exact k
theorem dg {G : Mem} {d : D} {ds : List D} {vs : List Value} {Z : List Value → Prop} (h : RpL G (d :: ds) vs) (k : ∀ v r, Rp G d v → RpL G ds r → Z (v :: r)) : Z vs := by
 cases h with
 | intro v h => cases h with
   | intro r h => cases h with
     | intro e h => subst e; exact k v r h.1 h.2
theorem rcI {G : Mem} {n : Int} {ds : List D} {vs : List Value} {Z : List Value → Prop} (h : RpL G (.i n :: ds) vs) (k : ∀ t r, RpL G ds r → Z (.int n t :: r)) : Z vs := dg h fun v r h t => by cases h with | intro u e => subst e; exact k u r t
theorem rcS {G : Mem} {x : Str} {ds : List D} {vs : List Value} {Z : List Value → Prop} (h : RpL G (.s x :: ds) vs) (k : ∀ t r, RpL G ds r → Z (.str x t :: r)) : Z vs := dg h fun v r h t => by cases h with | intro u e => subst e; exact k u r t
theorem rcV {G : Mem} {u : Value} {ds : List D} {vs : List Value} {Z : List Value → Prop} (h : RpL G (.v u :: ds) vs) (k : ∀ r, RpL G ds r → Z (u :: r)) : Z vs := dg h fun v r h t => by subst h; exact k r t
theorem k_ii {G : Mem} {n₁ : Int} {n₂ : Int} {vs : List Value} {Z : List Value → Prop} (h : RpL G [.i n₁, .i n₂] vs) (k : ∀ t₁ t₂, Z [.int n₁ t₁, .int n₂ t₂]) : Z vs := rcI h fun t₁ r t => rcI (Z := fun r => Z (.int n₁ t₁ :: r)) t fun t₂ r t => re0 (Z := fun r => Z (.int n₁ t₁ :: .int n₂ t₂ :: r)) t (k t₁ t₂)
theorem k_r {G : Mem} {d₁ : D} {vs : List Value} {Z : List Value → Prop} (h : RpL G [d₁] vs) (k : ∀ v₁, Rp G d₁ v₁ → Z [v₁]) : Z vs := dg h fun v₁ r h₁ t => re0 (Z := fun r => Z (v₁ :: r)) t (k v₁ h₁)
theorem oN {G : Mem} {d₁ : D} {n₂ : Int} {vs : List Value} {Z : List Value → Prop} (h : RpL G [d₁, .i n₂] vs) (k : ∀ v₁ t₂, Rp G d₁ v₁ → Z [v₁, .int n₂ t₂]) : Z vs := dg h fun v₁ r h₁ t => rcI (Z := fun r => Z (v₁ :: r)) t fun t₂ r t => re0 (Z := fun r => Z (v₁ :: .int n₂ t₂ :: r)) t (k v₁ t₂ h₁)
theorem k_i {G : Mem} {n₁ : Int} {vs : List Value} {Z : List Value → Prop} (h : RpL G [.i n₁] vs) (k : ∀ t₁, Z [.int n₁ t₁]) : Z vs := rcI h fun t₁ r t => re0 (Z := fun r => Z (.int n₁ t₁ :: r)) t (k t₁)
theorem qA {G : Mem} {d₁ : D} {n₂ : Int} {n₃ : Int} {n₄ : Int} {vs : List Value} {Z : List Value → Prop} (h : RpL G [d₁, .i n₂, .i n₃, .i n₄] vs) (k : ∀ v₁ t₂ t₃ t₄, Rp G d₁ v₁ → Z [v₁, .int n₂ t₂, .int n₃ t₃, .int n₄ t₄]) : Z vs := dg h fun v₁ r h₁ t => rcI (Z := fun r => Z (v₁ :: r)) t fun t₂ r t => rcI (Z := fun r => Z (v₁ :: .int n₂ t₂ :: r)) t fun t₃ r t => rcI (Z := fun r => Z (v₁ :: .int n₂ t₂ :: .int n₃ t₃ :: r)) t fun t₄ r t => re0 (Z := fun r => Z (v₁ :: .int n₂ t₂ :: .int n₃ t₃ :: .int n₄ t₄ :: r)) t (k v₁ t₂ t₃ t₄ h₁)
theorem k_sv {G : Mem} {x₁ : Str} {u₂ : Value} {vs : List Value} {Z : List Value → Prop} (h : RpL G [.s x₁, .v u₂] vs) (k : ∀ t₁, Z [.str x₁ t₁, u₂]) : Z vs := rcS h fun t₁ r t => rcV (Z := fun r => Z (.str x₁ t₁ :: r)) t fun r t => re0 (Z := fun r => Z (.str x₁ t₁ :: u₂ :: r)) t (k t₁)
theorem k_vsv {G : Mem} {u₁ : Value} {x₂ : Str} {u₃ : Value} {vs : List Value} {Z : List Value → Prop} (h : RpL G [.v u₁, .s x₂, .v u₃] vs) (k : ∀ t₂, Z [u₁, .str x₂ t₂, u₃]) : Z vs := rcV h fun r t => rcS (Z := fun r => Z (u₁ :: r)) t fun t₂ r t => rcV (Z := fun r => Z (u₁ :: .str x₂ t₂ :: r)) t fun r t => re0 (Z := fun r => Z (u₁ :: .str x₂ t₂ :: u₃ :: r)) t (k t₂)
theorem k_vs {G : Mem} {u₁ : Value} {x₂ : Str} {vs : List Value} {Z : List Value → Prop} (h : RpL G [.v u₁, .s x₂] vs) (k : ∀ t₂, Z [u₁, .str x₂ t₂]) : Z vs := rcV h fun r t => rcS (Z := fun r => Z (u₁ :: r)) t fun t₂ r t => re0 (Z := fun r => Z (u₁ :: .str x₂ t₂ :: r)) t (k t₂)
theorem k_rr {G : Mem} {d₁ : D} {d₂ : D} {vs : List Value} {Z : List Value → Prop} (h : RpL G [d₁, d₂] vs) (k : ∀ v₁ v₂, Rp G d₁ v₁ → Rp G d₂ v₂ → Z [v₁, v₂]) : Z vs := dg h fun v₁ r h₁ t => dg (Z := fun r => Z (v₁ :: r)) t fun v₂ r h₂ t => re0 (Z := fun r => Z (v₁ :: v₂ :: r)) t (k v₁ v₂ h₁ h₂)
theorem k_v {G : Mem} {u₁ : Value} {vs : List Value} {Z : List Value → Prop} (h : RpL G [.v u₁] vs) (k : Z [u₁]) : Z vs := rcV h fun r t => re0 (Z := fun r => Z (u₁ :: r)) t k
theorem k_viv {G : Mem} {u₁ : Value} {n₂ : Int} {u₃ : Value} {vs : List Value} {Z : List Value → Prop} (h : RpL G [.v u₁, .i n₂, .v u₃] vs) (k : ∀ t₂, Z [u₁, .int n₂ t₂, u₃]) : Z vs := rcV h fun r t => rcI (Z := fun r => Z (u₁ :: r)) t fun t₂ r t => rcV (Z := fun r => Z (u₁ :: .int n₂ t₂ :: r)) t fun r t => re0 (Z := fun r => Z (u₁ :: .int n₂ t₂ :: u₃ :: r)) t (k t₂)
theorem k_rii {G : Mem} {d₁ : D} {n₂ : Int} {n₃ : Int} {vs : List Value} {Z : List Value → Prop} (h : RpL G [d₁, .i n₂, .i n₃] vs) (k : ∀ v₁ t₂ t₃, Rp G d₁ v₁ → Z [v₁, .int n₂ t₂, .int n₃ t₃]) : Z vs := dg h fun v₁ r h₁ t => rcI (Z := fun r => Z (v₁ :: r)) t fun t₂ r t => rcI (Z := fun r => Z (v₁ :: .int n₂ t₂ :: r)) t fun t₃ r t => re0 (Z := fun r => Z (v₁ :: .int n₂ t₂ :: .int n₃ t₃ :: r)) t (k v₁ t₂ t₃ h₁)
theorem k_vv {G : Mem} {u₁ : Value} {u₂ : Value} {vs : List Value} {Z : List Value → Prop} (h : RpL G [.v u₁, .v u₂] vs) (k : Z [u₁, u₂]) : Z vs := rcV h fun r t => rcV (Z := fun r => Z (u₁ :: r)) t fun r t => re0 (Z := fun r => Z (u₁ :: u₂ :: r)) t k
theorem rgv {G Gs : Mem} {v : Value} {ds : List D} {vs : List Value} (h : RpL G (.g Gs v :: ds) vs) : RpL G (.v v :: ds) vs := dg (Z := RpL G (.v v :: ds)) h fun w r h t => rc h.1 t
theorem rgl {G Gs : Mem} {v : Value} {ds : List D} {vs : List Value} (h : RpL G (.g Gs v :: ds) vs) : Le Gs G := dg (Z := fun ux => Le Gs G) h fun w r h t => h.2
theorem rtl {G : Mem} {d : D} {ds es : List D} {vs : List Value} (h : RpL G (d :: ds) vs) (k : ∀ r, RpL G ds r → RpL G es r) : RpL G (d :: es) vs := dg (Z := RpL G (d :: es)) h fun w r h t => rc h (k r t)
theorem RpL.one {G : Mem} {d : D} {v : Value} (h : Rp G d v) : RpL G [d] [v] := ⟨v, [], rfl, h, rfl⟩
inductive Ld (h : Heap) (env : Env) (x : Str) (v : Value) : Prop
 | loc {m} (hk : env.kindOf x = some .local) (hn : h.Ns env.locals m) (hm : m x = some v)
 | cel {c} (hk : env.kindOf x = some .cell) (hc : env.cells.lookup x = some c) (ho : h.IsCell c (some v))
 | fre {c} (hk : env.kindOf x = some .free) (hc : env.cells.lookup x = some c) (ho : h.IsCell c (some v)) (hn : (x == ("__classdict__" : Str)) = false)
 | glo {m} (hk : env.kindOf x = some .globalImplicit) (hn : h.Ns env.globals m) (hm : m x = some v)
 | bui {m mb} (hk : env.kindOf x = some .globalImplicit) (hn : h.Ns env.globals m) (hm : m x = none) (hb : h.Ns env.builtins mb) (hv : mb x = some v)
 | glN {m} (hk : env.kindOf x = none) (hn : h.Ns env.globals m) (hm : m x = some v)
 | buN {m mb} (hk : env.kindOf x = none) (hn : h.Ns env.globals m) (hm : m x = none) (hb : h.Ns env.builtins mb) (hv : mb x = some v)
theorem Ld.mono {h h' : Heap} {env : Env} {x : Str} {v : Value} (k : ∀ b o, h.get? b = some o → h'.get? b = some o) : Ld h env x v → Ld h' env x v
 | .loc a b c => .loc a (b.keeps k) c
 | .cel a b ⟨o, e, r⟩ => .cel a b ⟨o, k _ _ e, r⟩
 | .fre a b ⟨o, e, r⟩ n => .fre a b ⟨o, k _ _ e, r⟩ n
 | .glo a b c => .glo a (b.keeps k) c
 | .bui a b c d e => .bui a (b.keeps k) c (d.keeps k) e
 | .glN a b c => .glN a (b.keeps k) c
 | .buN a b c d e => .buN a (b.keeps k) c (d.keeps k) e
structure En (h : Heap) (G : Mem) (env : Env) (ρ : List (Str × D)) : Prop where
 fn : env.scope.kind = .function
 gl : ∃ m, h.Ns env.globals m
 bu : ∃ m, h.Ns env.builtins m
 sub : In G h
 at' : ∀ p ∈ ρ, ∃ v, Ld h env p.1 v ∧ Rp G p.2 v
structure Kp (s : Shared) (G : Mem) (s' : Shared) (G' : Mem) : Prop where
 k : Keeps s s'
 le : Le G G'
 sub : In G' s'.heap
 new : ∀ b o, G' b = some o → G b = some o ∨ s.heap.get? b = none
theorem Kp.hp {s s' : Shared} {G G' : Mem} (x : Kp s G s' G') : ∀ b o, s.heap.get? b = some o → s'.heap.get? b = some o := by
 obtain ⟨h, t, e, k⟩ := x.k
 subst e; exact k
theorem Kp.rf {s : Shared} {G : Mem} (h : In G s.heap) : Kp s G s G := ⟨⟨s.heap, s.toks, rfl, fun ux ux e => e⟩, fun ux ux e => e, h, fun ux ux e => .inl e⟩
theorem Kp.tok {s : Shared} {G : Mem} (h : In G s.heap) (t : Nat) : Kp s G { s with toks := t } G := ⟨⟨s.heap, t, rfl, fun ux ux e => e⟩, fun ux ux e => e, h, fun ux ux e => .inl e⟩
theorem Kp.tr {s s' s'' : Shared} {G G' G'' : Mem} (x : Kp s G s' G') (y : Kp s' G' s'' G'') : Kp s G s'' G'' := by
 refine ⟨?_, fun b o e => y.le b o (x.le b o e), y.sub, fun b o e => ?_⟩
 · obtain ⟨h, t, e, k⟩ := x.k
   obtain ⟨h', t', e', k'⟩ := y.k
   subst e e'
   exact ⟨h', t', rfl, fun b o z => k' b o (k b o z)⟩
 · rcases y.new b o e with q | q
   · exact x.new b o q
   · right
     cases z : s.heap.get? b with
     | none => rfl
     | some o' => rw [x.hp b o' z] at q; cases q
noncomputable def put (G : Mem) (a : Addr) (o : Obj) : Mem := fun b => if b = a then some o else G b
theorem a9 (G : Mem) (a : Addr) (o : Obj) : put G a o a = some o := if_pos rfl
theorem Kp.push {s : Shared} {G : Mem} (h : In G s.heap) {o : Obj} (hf : o.isFreed = false) (t : Nat) : Kp s G { s with heap := s.heap.push o, toks := t } (put G s.heap.objs.size o) := by
 have fr : s.heap.get? s.heap.objs.size = none := by
  cases q : s.heap.get? s.heap.objs.size with
  | none => rfl
  | some o' => exact absurd (Heap.lt_size q) (Nat.lt_irrefl _)
 refine ⟨⟨_, t, rfl, fun b o' e => Heap.get?_push_of_some _ e⟩, fun b o' e => ?_, fun b o' e => ?_, fun b o' e => ?_⟩
 · unfold put
   by_cases q : b = s.heap.objs.size
   · subst q; have := h _ _ e; rw [fr] at this; cases this
   · erw [if_neg q]; exact e
 · unfold put at e
   by_cases q : b = s.heap.objs.size
   · subst q; rw [if_pos rfl] at e; cases e; exact Heap.get?_push_size _ hf
   · rw [if_neg q] at e; exact Heap.get?_push_of_some _ (h _ _ e)
 · unfold put at e
   by_cases q : b = s.heap.objs.size
   · subst q; exact .inr fr
   · rw [if_neg q] at e; exact .inl e
theorem En.go {s s' : Shared} {G G' : Mem} {env : Env} {ρ : List (Str × D)} (x : En s.heap G env ρ) (k : Kp s G s' G') : En s'.heap G' env ρ :=
 ⟨x.fn, let ⟨m, n⟩ := x.gl; ⟨m, n.keeps k.hp⟩, let ⟨m, n⟩ := x.bu; ⟨m, n.keeps k.hp⟩, k.sub, fun p hp => let ⟨v, a, b⟩ := x.at' p hp; ⟨v, a.mono k.hp, b.mono k.le⟩⟩
noncomputable abbrev Out (s : Shared) (G : Mem) (d : D) (Q : Value → Shared → Prop) : Prop := ∀ v s' G', Kp s G s' G' → Rp G' d v → Q v s'
noncomputable abbrev OutL (s : Shared) (G : Mem) (ds : List D) (Q : List Value → Shared → Prop) : Prop := ∀ vs s' G', Kp s G s' G' → RpL G' ds vs → Q vs s'
noncomputable def Ev (M : Model) (A : Around) (env : Env) (ρ : List (Str × D)) (e : Expr) (d : D) : Prop :=
 ∀ (s : Shared) (G : Mem) (Q E : Value → Shared → Prop), En s.heap G env ρ → Out s G d Q → wpAny M A (eval e env) Q E s
noncomputable def EvL (M : Model) (A : Around) (env : Env) (ρ : List (Str × D)) (es : List Expr) (ds : List D) : Prop :=
 ∀ (pos : Pos) (s : Shared) (G : Mem) (Q : List Value → Shared → Prop) (E : Value → Shared → Prop), En s.heap G env ρ → OutL s G ds Q → wpAny M A (spliced (backTo pos (starEach es env))) Q E s
noncomputable def Op2 (M : Model) (A : Around) (op : Operator) (da db d : D) : Prop :=
 ∀ (s : Shared) (G : Mem) (Q E : Value → Shared → Prop) (a b : Value), In G s.heap → Rp G da a → Rp G db b → Out s G d Q → wpAny M A (binaryOp op a b) Q E s
noncomputable def Op1 (M : Model) (A : Around) (op : UnaryOp) (da d : D) : Prop :=
 ∀ (s : Shared) (G : Mem) (Q E : Value → Shared → Prop) (a : Value), In G s.heap → Rp G da a → Out s G d Q → wpAny M A (unaryOp op a) Q E s
noncomputable def Cmp (M : Model) (A : Around) (op : CmpOp) (da db d : D) : Prop :=
 ∀ (s : Shared) (G : Mem) (Q E : Value → Shared → Prop) (a b : Value), In G s.heap → Rp G da a → Rp G db b → Out s G d Q → wpAny M A (compareOp op a b) Q E s
noncomputable def Tru (M : Model) (A : Around) (d : D) (c : Bool) : Prop :=
 ∀ (s : Shared) (G : Mem) (Q : Bool → Shared → Prop) (E : Value → Shared → Prop) (v : Value), In G s.heap → Rp G d v → (∀ s' G', Kp s G s' G' → Q c s') → wpAny M A (truthy v) Q E s
noncomputable def Tst (M : Model) (A : Around) (env : Env) (ρ : List (Str × D)) (e : Expr) (c : Bool) : Prop :=
 ∀ (s : Shared) (G : Mem) (Q : Bool → Shared → Prop) (E : Value → Shared → Prop), En s.heap G env ρ → (∀ s' G', Kp s G s' G' → Q c s') → wpAny M A (isTrue e env (eval e env)) Q E s
section
variable {prog : Program} {w : World} {A : Around} {env : Env} {ρ : List (Str × D)}
theorem ah {e : Expr} {d d' : D} (h : Ev (model prog w) A env ρ e d) (q : d = d') : Ev (model prog w) A env ρ e d' := q ▸ h
theorem aX {e : Expr} {d d' : Bool} (h : Tst (model prog w) A env ρ e d) (q : d = d') : Tst (model prog w) A env ρ e d' := q ▸ h
theorem aa {x : Str} {pos : Pos} {d : D} (hm : (x, d) ∈ ρ) (hd : (x == ("__debug__" : Str)) = false := by decide) (hk : (env.kindOf x).isSome = true := by rfl) : Ev (model prog w) A env ρ (.Name x pos) d := by
 intro s G Q E hE hQ
 obtain ⟨v, hl, hr⟩ := hE.at' _ hm
 have q := hQ v s G (Kp.rf hE.sub) hr
 cases hl with
 | loc a b c => exact wpAny_Name (wpAny_loadName_local hE.fn a b c q) hd
 | cel a b c => exact wpAny_Name (wpAny_loadName_cell hE.fn a b c q) hd
 | fre a b c n => exact wpAny_Name (wpAny_loadName_free hE.fn a b c q n) hd
 | glo a b c => exact Name_function_global hE.fn a (loadGlobal_global b c q) hd
 | bui a b c d e => exact Name_function_global hE.fn a (loadGlobal_builtin b c d e q) hd
 | glN a => rw [a] at hk; cases hk
 | buN a => rw [a] at hk; cases hk
theorem ad {n : Int} {k : Nat} {pos : Pos} : Ev (model prog w) A env ρ (.Constant (.int n) k pos) (.i n) :=
 fun s G ux ux hE hQ => wpAny_Constant_int (hQ _ _ _ (Kp.tok hE.sub _) ⟨_, rfl⟩)
theorem aT {x : Str} {k : Nat} {pos : Pos} : Ev (model prog w) A env ρ (.Constant (.str x) k pos) (.s x) :=
 fun s G ux ux hE hQ => Constant_str (hQ _ _ _ (Kp.tok hE.sub _) ⟨_, rfl⟩)
theorem d9 {c : Bool} {k : Nat} {pos : Pos} : Ev (model prog w) A env ρ (.Constant (.bool c) k pos) (.b c) :=
 fun ux ux ux ux hE hQ => Constant_bool (hQ _ _ _ (Kp.rf hE.sub) rfl)
theorem cS {k : Nat} {pos : Pos} : Ev (model prog w) A env ρ (.Constant .none k pos) .n :=
 fun ux ux ux ux hE hQ => Constant_none (hQ _ _ _ (Kp.rf hE.sub) rfl)
theorem ag {l r : Expr} {op : Operator} {pos : Pos} {da db d : D} (ha : Ev (model prog w) A env ρ l da) (hb : Ev (model prog w) A env ρ r db) (ho : Op2 (model prog w) A op da db d) : Ev (model prog w) A env ρ (.BinOp l op r pos) d := by
 intro s G Q E hE hQ
 exact wpAny_BinOp (ha s G _ _ hE fun a s₁ G₁ k₁ ra => hb s₁ G₁ _ _ (hE.go k₁) fun b s₂ G₂ k₂ rb => ho s₂ G₂ _ _ a b k₂.sub (ra.mono k₂.le) rb fun v s₃ G₃ k₃ r => hQ v s₃ G₃ ((k₁.tr k₂).tr k₃) r)
theorem mw {l r : Expr} {op : CmpOp} {pos : Pos} {da db d : D} (ha : Ev (model prog w) A env ρ l da) (hb : Ev (model prog w) A env ρ r db) (ho : Cmp (model prog w) A op da db d)
 (hm : behindInMarks op r = false := by with_unfolding_all rfl) : Ev (model prog w) A env ρ (.Compare l [op] [r] pos) d := by
 intro s G Q E hE hQ
 exact wpAny_Compare1 (ha s G _ _ hE fun a s₁ G₁ k₁ ra => hb s₁ G₁ _ _ (hE.go k₁) fun b s₂ G₂ k₂ rb => ho s₂ G₂ _ _ a b k₂.sub (ra.mono k₂.le) rb fun v s₃ G₃ k₃ r => hQ v s₃ G₃ ((k₁.tr k₂).tr k₃) r) hm
theorem gI {x : Expr} {op : UnaryOp} {pos : Pos} {da d : D} (ha : Ev (model prog w) A env ρ x da) (ho : Op1 (model prog w) A op da d) : Ev (model prog w) A env ρ (.UnaryOp op x pos) d := by
 intro s G Q E hE hQ
 exact UnaryOp_ (ha s G _ _ hE fun a s₁ G₁ k₁ ra => ho s₁ G₁ _ _ a k₁.sub ra fun v s₃ G₃ k₃ r => hQ v s₃ G₃ (k₁.tr k₃) r)
theorem dc {test body orelse : Expr} {pos : Pos} {c : Bool} {d e : D} (ht : Tst (model prog w) A env ρ test c) (ha : c = true → Ev (model prog w) A env ρ body d) (hb : c = false → Ev (model prog w) A env ρ orelse e) :
 Ev (model prog w) A env ρ (.IfExp test body orelse pos) (if c then d else e) := by
 intro s G Q E hE hQ
 refine IfExp_ (ht s G _ _ hE fun s₁ G₁ k₁ => ?_)
 cases c with
 | true => exact ha rfl s₁ G₁ _ _ (hE.go k₁) fun v s₃ G₃ k₃ r => hQ v s₃ G₃ (k₁.tr k₃) r
 | false => exact hb rfl s₁ G₁ _ _ (hE.go k₁) fun v s₃ G₃ k₃ r => hQ v s₃ G₃ (k₁.tr k₃) r
theorem gF {e : Expr} {d : D} {c : Bool} (h : Ev (model prog w) A env ρ e d) (ht : Tru (model prog w) A d c) (he : ∀ whole, isTrue e env whole = (do let v ← whole; standAt e.pos; holding [v] (truthy v)) := by intro _; rfl) :
 Tst (model prog w) A env ρ e c := by
 intro s G Q E hE hQ
 exact isTrue_plain (h s G _ _ hE fun v s₁ G₁ k₁ r => ht s₁ G₁ _ _ v k₁.sub r fun s₂ G₂ k₂ => hQ s₂ G₂ (k₁.tr k₂)) (he _)
theorem aj {l r : Expr} {op : CmpOp} {pos : Pos} {da db : D} {c : Bool} (ha : Ev (model prog w) A env ρ l da) (hb : Ev (model prog w) A env ρ r db) (ho : Cmp (model prog w) A op da db (.b c))
 (hm : behindInMarks op r = false := by with_unfolding_all rfl) : Tst (model prog w) A env ρ (.Compare l [op] [r] pos) c := by
 intro s G Q E hE hQ
 exact wpAny_isTrue_Compare1 (ha s G _ _ hE fun a s₁ G₁ k₁ ra => hb s₁ G₁ _ _ (hE.go k₁) fun b s₂ G₂ k₂ rb => ho s₂ G₂ _ _ a b k₂.sub (ra.mono k₂.le) rb fun v s₃ G₃ k₃ r => by
  have r : v = .bool c := r
  subst r
  exact wpAny_pure (hQ s₃ G₃ ((k₁.tr k₂).tr k₃))) hm
theorem tst_not {x : Expr} {pos : Pos} {c : Bool} (h : Tst (model prog w) A env ρ x c) : Tst (model prog w) A env ρ (.UnaryOp .Not x pos) (!c) := by
 intro s G Q E hE hQ
 exact isTrue_not (h s G _ _ hE fun s₁ G₁ k₁ => hQ s₁ G₁ k₁)
theorem bA {a b : Int} : Op2 (model prog w) A .Add (.i a) (.i b) (.i (a + b)) := by
 rintro s G Q E _ _ hG ⟨t, rfl⟩ ⟨u, rfl⟩ hQ
 exact add_int (hQ _ _ _ (Kp.tok hG _) ⟨_, rfl⟩)
theorem bL {a b : Int} : Op2 (model prog w) A .Sub (.i a) (.i b) (.i (a - b)) := by
 rintro s G Q E _ _ hG ⟨t, rfl⟩ ⟨u, rfl⟩ hQ
 exact sub_int (hQ _ _ _ (Kp.tok hG _) ⟨_, rfl⟩)
theorem dw {a b : Int} (hm : IntMulOk a b) : Op2 (model prog w) A .Mult (.i a) (.i b) (.i (a * b)) := by
 rintro s G Q E _ _ hG ⟨t, rfl⟩ ⟨u, rfl⟩ hQ
 exact mul_int (hQ _ _ _ (Kp.tok hG _) ⟨_, rfl⟩) hm
theorem ik {a b : Int} (hn : 0 ≤ b) (hsz : (Builtin.Int.intBits a : Int) * b ≤ 2 ^ 27) : Op2 (model prog w) A .Pow (.i a) (.i b) (.i (a ^ b.toNat)) := by
 rintro s G Q E _ _ hG ⟨t, rfl⟩ ⟨u, rfl⟩ hQ
 exact pow_int hn hsz (hQ _ _ _ (Kp.tok hG _) ⟨_, rfl⟩)
theorem op_shr {a b : Int} (hn : 0 ≤ b) : Op2 (model prog w) A .RShift (.i a) (.i b) (.i (a.fdiv (2 ^ b.toNat))) := by
 rintro s G Q E _ _ hG ⟨t, rfl⟩ ⟨u, rfl⟩ hQ
 exact rshift_int hn (hQ _ _ _ (Kp.tok hG _) ⟨_, rfl⟩)
theorem pH {a b : Int} (hn : 0 ≤ b) (hn2 : b ≤ 1000000) (ha : a.natAbs < 2 ^ 64) : Op2 (model prog w) A .LShift (.i a) (.i b) (.i (a * 2 ^ b.toNat)) := by
 rintro s G Q E _ _ hG ⟨t, rfl⟩ ⟨u, rfl⟩ hQ
 exact lshift_int_small hn hn2 ha (hQ _ _ _ (Kp.tok hG _) ⟨_, rfl⟩)
theorem iA {a b : Int} : Op2 (model prog w) A .BitAnd (.i a) (.i b) (.i (Builtin.bitAnd a b)) := by
 rintro s G Q E _ _ hG ⟨t, rfl⟩ ⟨u, rfl⟩ hQ
 exact and_int (hQ _ _ _ (Kp.tok hG _) ⟨_, rfl⟩)
theorem ci {a b : Int} (hh : A.handled = none) (hb : b ≠ 0) : Op2 (model prog w) A .Mod (.i a) (.i b) (.i (a.fmod b)) := by
 rintro s G Q E _ _ hG ⟨t, rfl⟩ ⟨u, rfl⟩ hQ
 exact mod_int_or hh (fun e => absurd e hb) (fun ux => hQ _ _ _ (Kp.tok hG _) ⟨_, rfl⟩)
theorem dI {a b : Int} (hh : A.handled = none) (hb : b ≠ 0) (hp : Builtin.divisionGoesByPylong a b = false) : Op2 (model prog w) A .FloorDiv (.i a) (.i b) (.i (a.fdiv b)) := by
 rintro s G Q E _ _ hG ⟨t, rfl⟩ ⟨u, rfl⟩ hQ
 exact floordiv_int_or hh (fun e => absurd e hb) (fun ux => hQ _ _ _ (Kp.tok hG _) ⟨_, rfl⟩) (fun ux => .inl hp)
theorem dT {a : Int} : Op1 (model prog w) A .USub (.i a) (.i (-a)) := by
 rintro s G Q E _ hG ⟨t, rfl⟩ hQ
 exact neg_int (hQ _ _ _ (Kp.tok hG _) ⟨_, rfl⟩)
theorem eA {a b : Int} : Cmp (model prog w) A .Eq (.i a) (.i b) (.b (a == b)) := by
 rintro s G Q E _ _ hG ⟨t, rfl⟩ ⟨u, rfl⟩ hQ
 exact PyProof.Rows.eq_int (hQ _ _ _ (Kp.rf hG) rfl)
theorem bI {a b : Int} : Cmp (model prog w) A .Lt (.i a) (.i b) (.b (decide (a < b))) := by
 rintro s G Q E _ _ hG ⟨t, rfl⟩ ⟨u, rfl⟩ hQ
 exact PyProof.Rows.lt_int (hQ _ _ _ (Kp.rf hG) rfl)
theorem tru_bool {c : Bool} : Tru (model prog w) A (.b c) c := by
 rintro s G Q E _ hG rfl hQ
 exact wpAny_mono (wpAny_pure (hQ _ _ (Kp.rf hG))) (fun ux ux x => x) fun ux ux x => x
theorem jE {n : Int} : Tru (model prog w) A (.i n) (n != 0) := by
 rintro s G Q E _ hG ⟨t, rfl⟩ hQ
 exact P.truthy_int (hQ _ _ (Kp.rf hG))
theorem tst_and0 {pos : Pos} : Tst (model prog w) A env ρ (.BoolOp .And [] pos) true := fun s G Q E hE hQ => isTrue_and_nil (hQ s G (Kp.rf hE.sub))
theorem tst_or0 {pos : Pos} : Tst (model prog w) A env ρ (.BoolOp .Or [] pos) false := fun s G Q E hE hQ => isTrue_or_nil (hQ s G (Kp.rf hE.sub))
theorem tst_and {x : Expr} {rest : List Expr} {pos : Pos} {c d : Bool} (h : Tst (model prog w) A env ρ x c) (hr : c = true → Tst (model prog w) A env ρ (.BoolOp .And rest pos) d) : Tst (model prog w) A env ρ (.BoolOp .And (x :: rest) pos) (c && d) := by
 intro s G Q E hE hQ
 refine isTrue_and (h s G _ _ hE fun s₁ G₁ k₁ => ?_)
 cases c with
 | false => exact hQ s₁ G₁ k₁
 | true => exact hr rfl s₁ G₁ _ _ (hE.go k₁) fun s₂ G₂ k₂ => hQ s₂ G₂ (k₁.tr k₂)
theorem pG {x : Expr} {rest : List Expr} {pos : Pos} {c d : Bool} (h : Tst (model prog w) A env ρ x c) (hr : c = false → Tst (model prog w) A env ρ (.BoolOp .Or rest pos) d) : Tst (model prog w) A env ρ (.BoolOp .Or (x :: rest) pos) (c || d) := by
 intro s G Q E hE hQ
 refine isTrue_or (h s G _ _ hE fun s₁ G₁ k₁ => ?_)
 cases c with
 | true => exact hQ s₁ G₁ k₁
 | false => exact hr rfl s₁ G₁ _ _ (hE.go k₁) fun s₂ G₂ k₂ => hQ s₂ G₂ (k₁.tr k₂)
theorem ae : EvL (model prog w) A env ρ [] [] := fun pos s G Q E hE hQ => spliced_none (hQ [] s G (Kp.rf hE.sub) rfl)
theorem ab {e : Expr} {es : List Expr} {d : D} {ds : List D} (h : Ev (model prog w) A env ρ e d) (hr : EvL (model prog w) A env ρ es ds) (he : ∀ env, starEach (e :: es) env = (false, eval e env) :: starEach es env := by intro _; rfl) : EvL (model prog w) A env ρ (e :: es) (d :: ds) := by
 intro pos s G Q E hE hQ
 exact spliced_more (h s G _ _ hE fun v s₁ G₁ k₁ r => hr pos s₁ G₁ _ _ (hE.go k₁) fun vs s₂ G₂ k₂ r₂ => hQ (v :: vs) s₂ G₂ (k₁.tr k₂) ⟨v, vs, rfl, r.mono k₂.le, r₂⟩) (he env)
theorem lA {s : Shared} {G : Mem} {vs : List Value} {ds : List D} {Q E : Value → Shared → Prop} (hG : In G s.heap) (r : RpL G ds vs) (hsz : ds.length ≤ 1000000) (hQ : Out s G (.l ds) Q) : wpAny (model prog w) A (newList vs) Q E s := by
 have e : vs.length ≤ sizeLine := by erw [r.length]; erw [sizeLine_eq]; lia
 refine wpAny_newObj_type ?_ (by show vs.toArray.size ≤ sizeLine; erw [List.size_toArray]; exact e)
 have K := Kp.push hG (o := { cls := .type "list", data := .seq vs.toArray }) rfl s.toks
 exact hQ _ _ _ K ⟨s.heap.objs.size, vs.toArray, 0, rfl, a9 _ _ _, r.mono K.le⟩
theorem bx {s : Shared} {G : Mem} {vs : List Value} {ds : List D} {Q E : Value → Shared → Prop} (hG : In G s.heap) (r : RpL G ds vs) (hsz : ds.length ≤ 1000000) (hQ : Out s G (.t ds) Q) : wpAny (model prog w) A (newTuple vs) Q E s := by
 have e : vs.length ≤ sizeLine := by erw [r.length]; erw [sizeLine_eq]; lia
 refine wpAny_newObj_type ?_ (by show vs.toArray.size ≤ sizeLine; erw [List.size_toArray]; exact e)
 have K := Kp.push hG (o := { cls := .type "tuple", data := .seq vs.toArray }) rfl s.toks
 exact hQ _ _ _ K ⟨s.heap.objs.size, vs.toArray, _, 0, rfl, a9 _ _ _, rfl, rfl, r.mono K.le⟩
theorem bc {es : List Expr} {pos : Pos} {ds : List D} (h : EvL (model prog w) A env ρ es ds) (hsz : ds.length ≤ 1000000) : Ev (model prog w) A env ρ (.List es pos) (.l ds) := by
 intro s G Q E hE hQ
 exact List_ (h pos s G _ _ hE fun vs s₁ G₁ k₁ r => lA k₁.sub r hsz fun v s₂ G₂ k₂ r₂ => hQ v s₂ G₂ (k₁.tr k₂) r₂)
theorem bp {es : List Expr} {k : Nat} {pos : Pos} {ds : List D} (h : EvL (model prog w) A env ρ es ds) (hsz : ds.length ≤ 1000000) : Ev (model prog w) A env ρ (.Tuple es k pos) (.t ds) := by
 intro s G Q E hE hQ
 exact Tuple_ (h pos s G _ _ hE fun vs s₁ G₁ k₁ r => bx k₁.sub r hsz fun v s₂ G₂ k₂ r₂ => hQ v s₂ G₂ (k₁.tr k₂) r₂)
noncomputable def Cl (M : Model) (A : Around) (f : Value) (ds : List D) (d : D) : Prop :=
 ∀ (s : Shared) (G : Mem) (Q E : Value → Shared → Prop) (vs : List Value), In G s.heap → RpL G ds vs → Out s G d Q → wpAny M A (call f vs) Q E s
theorem aK {x : Str} {p pos : Pos} {id : String} {e : Expr} {es : List Expr} {ds : List D} {d : D} (hf : (x, .v (.builtin id)) ∈ ρ) (ha : EvL (model prog w) A env ρ (e :: es) ds) (hc : Cl (model prog w) A (.builtin id) ds d)
 (hx : (x == ("__debug__" : Str)) = false := by decide) (hk : (env.kindOf x).isSome = true := by rfl) (he : starEach (e :: es) env = (false, eval e env) :: starEach es env := by rfl) (hplain : (backTo pos (starEach es env)).any (·.1) = false := by rfl) :
 Ev (model prog w) A env ρ (.Call (.Name x p) (e :: es) [] pos) d := by
 intro s G Q E hE hQ
 refine Call_Name rfl (aa hf hx hk s G _ _ hE fun f s₁ G₁ k₁ r => ?_)
 have r : f = .builtin id := r
 subst r
 exact callWith_method1 (ha pos s₁ G₁ _ _ (hE.go k₁) fun vs s₂ G₂ k₂ r₂ => hc s₂ G₂ _ _ vs k₂.sub r₂ fun v s₃ G₃ k₃ r₃ => hQ v s₃ G₃ ((k₁.tr k₂).tr k₃) r₃) he hplain
theorem jh {x : Str} {p pos : Pos} {T : String} {e : Expr} {es : List Expr} {ds : List D} {d : D} (hf : (x, .v (.type T)) ∈ ρ) (ha : EvL (model prog w) A env ρ (e :: es) ds) (hc : Cl (model prog w) A (.type T) ds d)
 (hx : (x == ("__debug__" : Str)) = false := by decide) (hk : (env.kindOf x).isSome = true := by rfl) (he : starEach (e :: es) env = (false, eval e env) :: starEach es env := by rfl) (hplain : (backTo pos (starEach es env)).any (·.1) = false := by rfl) :
 Ev (model prog w) A env ρ (.Call (.Name x p) (e :: es) [] pos) d := by
 intro s G Q E hE hQ
 refine Call_Name rfl (aa hf hx hk s G _ _ hE fun f s₁ G₁ k₁ r => ?_)
 have r : f = .type T := r
 subst r
 exact PyProof.Rows.callWith_type1 (ha pos s₁ G₁ _ _ (hE.go k₁) fun vs s₂ G₂ k₂ r₂ => hc s₂ G₂ _ _ vs k₂.sub r₂ fun v s₃ G₃ k₃ r₃ => hQ v s₃ G₃ ((k₁.tr k₂).tr k₃) r₃) he hplain
theorem jD {G : Mem} {h : Heap} (hG : In G h) {xs : List D} {v : Value} (r : Rp G (.l xs) v) : ∃ a vs, v = .ref a ∧ h.IsList a vs ∧ vs.size = xs.length ∧ RpL G xs vs.toList := by
 obtain ⟨a, vs, k, e, g, q⟩ := r
 exact ⟨a, vs, e, ⟨_, hG _ _ g, rfl, _, rfl⟩, by have := q.length; simpa using this, q⟩
theorem bW {G : Mem} {h : Heap} (hG : In G h) {xs : List D} {v : Value} (r : Rp G (.t xs) v) : ∃ a vs, v = .ref a ∧ h.IsTuple a vs ∧ vs.size = xs.length ∧ RpL G xs vs.toList := by
 obtain ⟨a, vs, o, k, e, g, q1, q2, q⟩ := r
 exact ⟨a, vs, e, ⟨_, hG _ _ g, q1, _, q2⟩, by have := q.length; simpa using this, q⟩
theorem cl_len {xs : List D} (hsz : (xs.length : Int) < 2 ^ 63) : Cl (model prog w) A (.builtin "len") [.l xs] (.i xs.length) := by
 rintro s G Q E vs hG ⟨v, r, rfl, rv, rfl⟩ hQ
 obtain ⟨a, its, rfl, hl, hs, _⟩ := jD hG rv
 exact len_list hl (by erw [hs]; exact hsz) (hQ _ _ _ (Kp.tok hG _) ⟨_, by erw [hs]⟩)
theorem ml {a b : Int} (hh : A.handled = none) : Cl (model prog w) A (.builtin "max") [.i a, .i b] (.i (max a b)) := by
 rintro s G Q E vs hG ⟨v, r, rfl, ⟨t, rfl⟩, v', r', rfl, ⟨t', rfl⟩, rfl⟩ hQ
 refine max_two_ints hh fun h' tk hk => ?_
 have K : Kp s G { s with heap := h', toks := tk } G := ⟨⟨h', tk, rfl, hk⟩, fun ux ux e => e, fun b o e => hk _ _ (hG _ _ e), fun ux ux e => .inl e⟩
 by_cases h : b > a
 · erw [if_pos h]; exact hQ _ _ _ K ⟨_, by erw [Int.max_eq_right (by lia)]⟩
 · erw [if_neg h]; exact hQ _ _ _ K ⟨_, by erw [Int.max_eq_left (by lia)]⟩
theorem aF {value slice : Expr} {pos : Pos} {xs : List D} {k : Int} {d : D} (hv : Ev (model prog w) A env ρ value (.l xs)) (hi : Ev (model prog w) A env ρ slice (.i k)) (h0 : 0 ≤ k) (hk : k < 2 ^ 63) (hx : xs[k.toNat]? = some d)
 (hs : ∀ o u, subscripted slice false (.ref o) (.int k u) = operate [.ref o, .int k u] (getItem (.ref o) (.int k u)) := by intro _ _; with_unfolding_all rfl) :
 Ev (model prog w) A env ρ (.Subscript value slice pos) d := by
 intro s G Q E hE hQ
 refine Subscript_ (hv s G _ _ hE fun o s₁ G₁ k₁ r₁ => hi s₁ G₁ _ _ (hE.go k₁) fun i s₂ G₂ k₂ r₂ => ?_)
 obtain ⟨u, rfl⟩ := r₂
 obtain ⟨a, its, rfl, hl, hsz, q⟩ := jD k₂.sub (r₁.mono k₂.le)
 obtain ⟨x, hx', rx⟩ := q.get hx
 exact kba_turn (value' := PySem.Expr.Name (PySem.Str.ofString "_") ⟨0, 0, 0, 0⟩) (fun ux => rfl) (item_list hl h0 hk (by simpa using hx') (hQ x s₂ G₂ (k₁.tr k₂) rx) (hs _ _) (fun ux => rfl))
theorem au {value slice : Expr} {pos : Pos} {xs : List D} {k : Int} {d : D} (hv : Ev (model prog w) A env ρ value (.t xs)) (hi : Ev (model prog w) A env ρ slice (.i k)) (h0 : 0 ≤ k) (hk : k < 2 ^ 63) (hx : xs[k.toNat]? = some d)
 (hs : ∀ o u, subscripted slice false (.ref o) (.int k u) = operate [.ref o, .int k u] (getItem (.ref o) (.int k u)) := by intro _ _; with_unfolding_all rfl) :
 Ev (model prog w) A env ρ (.Subscript value slice pos) d := by
 intro s G Q E hE hQ
 refine Subscript_ (hv s G _ _ hE fun o s₁ G₁ k₁ r₁ => hi s₁ G₁ _ _ (hE.go k₁) fun i s₂ G₂ k₂ r₂ => ?_)
 obtain ⟨u, rfl⟩ := r₂
 obtain ⟨a, its, rfl, hl, hsz, q⟩ := bW k₂.sub (r₁.mono k₂.le)
 obtain ⟨x, hx', rx⟩ := q.get hx
 have hlt : k.toNat < its.size := by
  erw [hsz]; exact (List.getElem?_eq_some_iff.mp hx).1
 refine kba_turn (value' := PySem.Expr.Name (PySem.Str.ofString "_") ⟨0, 0, 0, 0⟩) (fun ux => rfl) (item_tuple (j := k.toNat) hl (by lia) hk ?_ (by simpa using hx') (hQ x s₂ G₂ (k₁.tr k₂) rx) (hs _ _) (fun ux => rfl))
 unfold seqIndex?
 have hneg : ¬ k < 0 := by lia
 simp only [hneg, if_false]
 erw [if_pos (by simp; lia)]
end
set_option tactic.hygienic false
structure KpB (wr : List Addr) (s : Shared) (G : Mem) (s' : Shared) (G' : Mem) : Prop where
 k : ∃ h' tk, s' = { s with heap := h', toks := tk } ∧ ∀ b o, b ∉ wr → s.heap.get? b = some o → h'.get? b = some o
 le : Le G G'
 sub : In G' s'.heap
 new : ∀ b o, G' b = some o → G b = some o ∨ s.heap.get? b = none
theorem KpB.hp {wr : List Addr} {s s' : Shared} {G G' : Mem} (x : KpB wr s G s' G') : ∀ b o, b ∉ wr → s.heap.get? b = some o → s'.heap.get? b = some o := by
 obtain ⟨h, t, e, k⟩ := x.k
 subst e; exact k
theorem KpB.of {wr : List Addr} {s s' : Shared} {G G' : Mem} (x : Kp s G s' G') : KpB wr s G s' G' := by
 obtain ⟨h, t, e, k⟩ := x.k
 exact ⟨⟨h, t, e, fun b o ux z => k b o z⟩, x.le, x.sub, x.new⟩
theorem KpB.mono {wr wr' : List Addr} {s s' : Shared} {G G' : Mem} (x : KpB wr s G s' G') (h : ∀ b ∈ wr, b ∈ wr') : KpB wr' s G s' G' := by
 obtain ⟨q, t, e, k⟩ := x.k
 exact ⟨⟨q, t, e, fun b o n z => k b o (fun m => n (h b m)) z⟩, x.le, x.sub, x.new⟩
theorem KpB.tr {wr : List Addr} {s s' s'' : Shared} {G G' G'' : Mem} (x : KpB wr s G s' G') (y : KpB wr s' G' s'' G'') (hw : ∀ b ∈ wr, G'' b = none) : KpB wr s G s'' G'' := by
 refine ⟨?_, fun b o e => y.le b o (x.le b o e), y.sub, fun b o e => ?_⟩
 · obtain ⟨h, t, e, k⟩ := x.k
   obtain ⟨h', t', e', k'⟩ := y.k
   subst e e'
   exact ⟨h', t', rfl, fun b o n z => k' b o n (k b o n z)⟩
 · rcases y.new b o e with q | q
   · exact x.new b o q
   · right
     have hb : b ∉ wr := fun m => by rw [hw b m] at e; cases e
     cases z : s.heap.get? b with
     | none => rfl
     | some o' => rw [x.hp b o' hb z] at q; cases q
theorem KpB.kp {wr : List Addr} {s₀ s s' : Shared} {G₀ G G' : Mem} (x : Kp s₀ G₀ s G) (y : KpB wr s G s' G') (hw : ∀ b ∈ wr, s₀.heap.get? b = none) : Kp s₀ G₀ s' G' := by
 refine ⟨?_, fun b o e => y.le b o (x.le b o e), y.sub, fun b o e => ?_⟩
 · obtain ⟨h, t, e, k⟩ := x.k
   obtain ⟨h', t', e', k'⟩ := y.k
   subst e e'
   exact ⟨h', t', rfl, fun b o z => k' b o (fun m => by rw [hw b m] at z; cases z) (k b o z)⟩
 · rcases y.new b o e with q | q
   · exact x.new b o q
   · right
     cases z : s₀.heap.get? b with
     | none => rfl
     | some o' => rw [x.hp b o' z] at q; cases q
theorem KpB.same {a : Addr} {s : Shared} {G : Mem} {h' : Heap} {t : Nat} (hG : In G s.heap) (hs : Heap.SameBut a s.heap h') (ha : G a = none) : KpB [a] s G { s with heap := h', toks := t } G := by
 refine ⟨⟨h', t, rfl, fun b o n e => hs.extBut b o (fun q => n (by erw [q]; exact .head _)) e⟩, fun ux ux e => e, fun b o e => ?_, fun ux ux e => .inl e⟩
 exact hs.extBut b o (fun q => by rw [q, ha] at e; cases e) (hG b o e)
theorem KpB.ext {a : Addr} {s : Shared} {G : Mem} {h' : Heap} {t : Nat} (hG : In G s.heap) (hs : Heap.ExtBut a s.heap h') (ha : G a = none) : KpB [a] s G { s with heap := h', toks := t } G := by
 refine ⟨⟨h', t, rfl, fun b o n e => hs b o (fun q => n (by erw [q]; exact .head _)) e⟩, fun ux ux e => e, fun b o e => ?_, fun ux ux e => .inl e⟩
 exact hs b o (fun q => by rw [q, ha] at e; cases e) (hG b o e)
structure OwnL (h : Heap) (G : Mem) (env : Env) : Prop where
 ns : ∃ m, h.Ns env.locals m
 gn : G env.locals = none
 gl : env.locals ≠ env.globals
 bu : env.locals ≠ env.builtins
 fn : env.scope.kind = .function
theorem gG {h : Heap} {a : Addr} {m m' : Str → Option Value} (x : h.Ns a m) (y : h.Ns a m') : m = m' := by
 obtain ⟨o, es, ep, e, d, _, r⟩ := x
 obtain ⟨o', es', ep', e', d', _, r'⟩ := y
 rw [e] at e'; cases e'
 rw [d] at d'; cases d'
 funext n; rw [← r n, r' n]
theorem aE {h : Heap} {a c : Addr} {m : Str → Option Value} {v : Option Value} (x : h.Ns a m) (y : h.IsCell c v) : a ≠ c := by
 obtain ⟨o, es, ep, e, d, _⟩ := x
 obtain ⟨o', e', d'⟩ := y
 rintro rfl
 rw [e] at e'; cases e'
 rw [d] at d'; cases d'
noncomputable def eg (x : Str) (d : D) (ρ ρ' : List (Str × D)) : Prop := ∀ p ∈ ρ', p = (x, d) ∨ (p ∈ ρ ∧ p.1 ≠ x)
section
variable {prog : Program} {w : World} {A : Around} {env : Env} {ρ ρ' : List (Str × D)}
theorem k8 {s : Shared} {G : Mem} {x : Str} {v : Value} {d : D} {Q : Unit → Shared → Prop} {E : Value → Shared → Prop} (hE : En s.heap G env ρ) (hO : OwnL s.heap G env) (hk : env.kindOf x = some .local) (hr : Rp G d v) (hs : eg x d ρ ρ')
 (hQ : ∀ s', KpB [env.locals] s G s' G → En s'.heap G env ρ' → OwnL s'.heap G env → Q () s') : wpAny (model prog w) A (storeName env x v) Q E s := by
 obtain ⟨m, hn⟩ := hO.ns
 have hp : (env.scope.kind == .class || (env.scope.kind == .module && env.locals != env.globals)) = false := by erw [hO.fn]; rfl
 refine wpAny_storeName_local hk hn (fun h' hn' hsb => ?_) hp
 have K : KpB [env.locals] s G { s with heap := h', toks := s.toks + 1 } G := KpB.same hE.sub hsb hO.gn
 refine hQ _ K ⟨hE.fn, let ⟨m, n⟩ := hE.gl; ⟨m, n.sameBut hsb (Ne.symm hO.gl)⟩, let ⟨m, n⟩ := hE.bu; ⟨m, n.sameBut hsb (Ne.symm hO.bu)⟩, K.sub, fun p hp => ?_⟩ ⟨⟨_, hn'⟩, hO.gn, hO.gl, hO.bu, hO.fn⟩
 rcases hs p hp with rfl | ⟨hp', hne⟩
 · exact ⟨v, .loc hk hn' (if_pos rfl), hr⟩
 · obtain ⟨u, hl, hu⟩ := hE.at' p hp'
   refine ⟨u, ?_, hu⟩
   cases hl with
   | loc a b c =>
     have := gG hn b
     subst this
     exact .loc a hn' (by erw [if_neg hne]; exact c)
   | cel a b c =>
     obtain ⟨o, e, q⟩ := c
     exact .cel a b ⟨o, hsb.extBut _ _ (Ne.symm (aE hn ⟨o, e, q⟩)) e, q⟩
   | fre a b c n =>
     obtain ⟨o, e, q⟩ := c
     exact .fre a b ⟨o, hsb.extBut _ _ (Ne.symm (aE hn ⟨o, e, q⟩)) e, q⟩ n
   | glo a b c => exact .glo a (b.sameBut hsb (Ne.symm hO.gl)) c
   | bui a b c d e => exact .bui a (b.sameBut hsb (Ne.symm hO.gl)) c (d.sameBut hsb (Ne.symm hO.bu)) e
   | glN a b c => exact .glN a (b.sameBut hsb (Ne.symm hO.gl)) c
   | buN a b c d e => exact .buN a (b.sameBut hsb (Ne.symm hO.gl)) c (d.sameBut hsb (Ne.symm hO.bu)) e
noncomputable def As (M : Model) (A : Around) (target : Expr) (d : D) (env : Env) (ρ ρ' : List (Str × D)) : Prop :=
 ∀ (s : Shared) (G : Mem) (v : Value) (Q : Unit → Shared → Prop) (E : Value → Shared → Prop), En s.heap G env ρ → OwnL s.heap G env → Rp G d v →
   (∀ s', KpB [env.locals] s G s' G → En s'.heap G env ρ' → OwnL s'.heap G env → Q () s') → wpAny M A (assign target env v) Q E s
theorem ax {x : Str} {pos : Pos} {d : D} (hk : env.kindOf x = some .local) (hs : eg x d ρ ρ') : As (model prog w) A (.Name x pos) d env ρ ρ' :=
 fun s G v Q E hE hO hr hQ => wpAny_assign_Name (k8 hE hO hk hr hs hQ)
theorem bN {t₁ t₂ : Expr} {k : Nat} {pos : Pos} {d₁ d₂ : D} {ρ₁ : List (Str × D)} (hh : A.handled = none) (h₁ : As (model prog w) A t₁ d₁ env ρ ρ₁) (h₂ : As (model prog w) A t₂ d₂ env ρ₁ ρ')
 (ha : assignEach [t₁, t₂] env = [(false, assign t₁ env), (false, assign t₂ env)] := by rfl) : As (model prog w) A (.Tuple [t₁, t₂] k pos) (.t [d₁, d₂]) env ρ ρ' := by
 intro s G v Q E hE hO hr hQ
 obtain ⟨a, its, rfl, ht, hsz, q⟩ := bW hE.sub hr
 obtain ⟨v₁, r, er, r₁, v₂, r', er', r₂, e0⟩ := q
 subst er' e0
 refine wpAny_assign_Tuple hh ht (by erw [ha]; simp at hsz; simp [hsz]) (by erw [ha]; rfl) fun h' hx => ?_
 erw [ha, er]
 have fr : s.heap.get? s.heap.objs.size = none := by
  cases q : s.heap.get? s.heap.objs.size with
  | none => rfl
  | some o' => exact absurd (Heap.lt_size q) (Nat.lt_irrefl _)
 have kk : ∀ b o, s.heap.get? b = some o → h'.get? b = some o := fun b o e => hx b o (fun z => by rw [z, fr] at e; cases e) e
 have K₀ : Kp s G { s with heap := h' } G := ⟨⟨h', s.toks, rfl, kk⟩, fun ux ux e => e, fun b o e => kk _ _ (hE.sub _ _ e), fun ux ux e => .inl e⟩
 have hO' : OwnL h' G env := ⟨let ⟨m, n⟩ := hO.ns; ⟨m, n.keeps kk⟩, hO.gn, hO.gl, hO.bu, hO.fn⟩
 refine assignInOrder_cons (h₁ _ G v₁ _ _ (hE.go K₀) hO' r₁ fun s₁ K₁ hE₁ hO₁ => assignInOrder_cons (h₂ s₁ G v₂ _ _ hE₁ hO₁ r₂ fun s₂ K₂ hE₂ hO₂ => assignInOrder_nil (hQ s₂ ?_ hE₂ hO₂)))
 have hw : ∀ b ∈ [env.locals], G b = none := fun b hb => by erw [List.mem_singleton.mp hb]; exact hO.gn
 exact ((KpB.of K₀).tr K₁ hw).tr K₂ hw
structure Wk (prog : Program) (w : World) (A : Around) (target : Expr) (G₀ : Mem) (I : Addr) (wr : List Addr) (xs : List D) (St : Nat → Heap → Prop) : Prop where
 frame : ∀ i h h', St i h → (∀ b ∈ wr, ∀ o, h.get? b = some o → h'.get? b = some o) → St i h'
 live : ∀ i h, St i h → ∀ b ∈ wr, ∃ o, h.get? b = some o
 item : ∀ i d (s : Shared) (G : Mem) (Q : Value → Shared → Prop) (E : Value → Shared → Prop), xs[i]? = some d → Le G₀ G → In G s.heap → (∀ b ∈ wr, G b = none) → St i s.heap →
  (∀ v s' G', KpB wr s G s' G' → (∀ b ∈ wr, G' b = none) → Rp G' d v → St (i + 1) s'.heap → Q v s') →
  wpAny (model prog w) A (pyNext (.ref I)) (fun r s₁ => match r with | none => False | some v => wpAny (model prog w) A (letOwnedTupleGo target (.ref I) v) (fun ux s₂ => Q v s₂) E s₁) E s
 done : ∀ (s : Shared) (G : Mem) (Q : Option Value → Shared → Prop) (E : Value → Shared → Prop), Le G₀ G → In G s.heap → (∀ b ∈ wr, G b = none) → St xs.length s.heap →
  (∀ s', KpB wr s G s' G → Q none s') → wpAny (model prog w) A (pyNext (.ref I)) Q E s
 self : ∀ i (s : Shared) (G : Mem) (Q : Value → Shared → Prop) (E : Value → Shared → Prop), Le G₀ G → In G s.heap → St i s.heap → Q (.ref I) s → wpAny (model prog w) A (pyIter (.ref I)) Q E s
noncomputable def It (prog : Program) (w : World) (A : Around) (target : Expr) (env : Env) (ρ : List (Str × D)) (e : Expr) (xs : List D) : Prop :=
 ∀ (s : Shared) (G : Mem) (Q E : Value → Shared → Prop), En s.heap G env ρ →
   (∀ I wr St s' G', Kp s G s' G' → (∀ b ∈ wr, s.heap.get? b = none ∧ G' b = none) → Wk prog w A target G' I wr xs St → St 0 s'.heap → Q (.ref I) s') →
   wpAny (model prog w) A (eval e env) (fun x s₁ => wpAny (model prog w) A (pyIter x) Q E s₁) E s
theorem iK {s : Shared} {G : Mem} (hG : In G s.heap) (o : Obj) (t : Nat) : Kp s G { s with heap := s.heap.push o, toks := t } G :=
 ⟨⟨_, t, rfl, fun b o' e => Heap.get?_push_of_some _ e⟩, fun ux ux e => e, fun b o' e => Heap.get?_push_of_some _ (hG b o' e), fun ux ux e => .inl e⟩
theorem aq (h : Heap) : h.get? h.objs.size = none := by
 cases q : h.get? h.objs.size with
 | none => rfl
 | some o' => exact absurd (Heap.lt_size q) (Nat.lt_irrefl _)
theorem ai {G : Mem} {h : Heap} (hG : In G h) {a : Addr} (e : h.get? a = none) : G a = none := by
 cases q : G a with
 | none => rfl
 | some o => rw [hG a o q] at e; cases e
theorem bg {e : Expr} {xs : List D} {x : Str} {px : Pos} (hh : A.handled = none) (h : Ev (model prog w) A env ρ e (.l xs)) : It prog w A (.Name x px) env ρ e xs := by
 intro s G Q E hE hQ
 refine h s G _ _ hE fun v s₁ G₁ k₁ r => ?_
 obtain ⟨a, vs, k, rfl, g, q⟩ := r
 have hl : s₁.heap.IsList a vs := ⟨_, k₁.sub _ _ g, rfl, _, rfl⟩
 have hsz : vs.size = xs.length := by have := q.length; simpa using this
 refine wpAny_pyIter_list hl ?_
 have K := iK k₁.sub (G := G₁) (s := s₁) { cls := .type "list_iterator", data := .fields #[.ref a, .int 0 0] } s₁.toks
 have fr := aq s₁.heap
 have frG : G₁ s₁.heap.objs.size = none := ai k₁.sub fr
 refine hQ s₁.heap.objs.size [s₁.heap.objs.size] (fun i h => h.IsListIter s₁.heap.objs.size a i) _ G₁ (k₁.tr K) (fun b hb => ?_) ?_ ⟨_, Heap.get?_push_size _ rfl, rfl, rfl⟩
 · erw [List.mem_singleton.mp hb]
   refine ⟨?_, frG⟩
   cases z : s.heap.get? s₁.heap.objs.size with
   | none => rfl
   | some o' => have := k₁.hp _ _ z; rw [fr] at this; cases this
 · refine ⟨fun i h h' st hk => st.at fun o e => hk _ (.head _) o e, fun i h st b hb => ?_, fun i d s' G' Q' E' hd hle hin hw st hQ' => ?_, fun s' G' Q' E' hle hin hw st hQ' => ?_, fun i s' G' Q' E' ux ux st hq => wpAny_pyIter_listiter st hq⟩
   · erw [List.mem_singleton.mp hb]; obtain ⟨o, e, _⟩ := st; exact ⟨o, e⟩
   · obtain ⟨v, hv, rv⟩ := q.get hd
     have hl' : s'.heap.IsList a vs := ⟨_, hin _ _ (hle _ _ g), rfl, _, rfl⟩
     refine wpAny_pyNext_list_item st hl' (x := v) (by simpa using hv) fun h' st' hs' => ?_
     exact wpAny_pure (hQ' v _ G' (KpB.same (t := s'.toks) hin hs' (hw _ (.head _))) hw (rv.mono hle) st')
   · have hl' : s'.heap.IsList a vs := ⟨_, hin _ _ (hle _ _ g), rfl, _, rfl⟩
     refine wpAny_pyNext_list_end hh st hl' (by rw [← hsz]; simp) fun h' he => ?_
     exact hQ' _ (KpB.ext (t := s'.toks) hin he (hw _ (.head _)))
end
set_option tactic.hygienic false
section
variable {prog : Program} {w : World} {A : Around} {env : Env} {ρ ρ' : List (Str × D)}
noncomputable def Ts (M : Model) (A : Around) (env : Env) (ρ : List (Str × D)) (ifs : List Expr) (c : Bool) : Prop :=
 ∀ (s : Shared) (G : Mem) (Q : Bool → Shared → Prop) (E : Value → Shared → Prop), En s.heap G env ρ → (∀ s' G', Kp s G s' G' → Q c s') →
   wpAny M A (forIn ifs true fun c r => if r = true then do let ok ← isTrue c env (eval c env); pure (ForInStep.yield ok) else pure (ForInStep.yield r)) Q E s
theorem bD : Ts (model prog w) A env ρ [] true := fun s G Q E hE hQ => wpAny_tests_nil (hQ s G (Kp.rf hE.sub))
theorem dO {t : Expr} {c : Bool} (h : Tst (model prog w) A env ρ t c) : Ts (model prog w) A env ρ [t] c := fun s G Q E hE hQ => wpAny_tests_one (h s G Q E hE hQ)
theorem jQ {elt target iter : Expr} {ifs : List Expr} {scope : Scope} {pos : Pos} {it acc : Value} {env : Env} {R : Result → Shared → Prop} {s : Shared} (I : Nat → Shared → Prop)
 (turn : ∀ n s, I n s → wpAny (model prog w) A (pyNext it) (fun r s₁ => match r with
  | none => R (.ok .next) s₁
  | some v => wpAny (model prog w) A (letOwnedTupleGo target it v) (fun ux s₁' => wpAny (model prog w) A (assign target env v) (fun ux s₂ =>
   wpAny (model prog w) A (forIn ifs true fun c r => if r = true then do let ok ← isTrue c env (eval c env); pure (ForInStep.yield ok) else pure (ForInStep.yield r)) (fun ok s₃ =>
    if ok = true then wpAny (model prog w) A (eval elt env) (fun x s₄ =>
     wpAny (model prog w) A (call (.builtin "list.append") [acc, x]) (fun ux s₅ => ∃ m, m < n ∧ I m s₅) (notedBy (model prog w) A env fun e s' => R (.error e) s') s₄) (notedBy (model prog w) A env fun e s' => R (.error e) s') s₃
    else ∃ m, m < n ∧ I m s₃) (notedBy (model prog w) A env fun e s' => R (.error e) s') s₂) (notedBy (model prog w) A env fun e s' => R (.error e) s') s₁') (notedBy (model prog w) A env fun e s' => R (.error e) s') s₁) (notedBy (model prog w) A env fun e s' => R (.error e) s') s)
 (n : Nat) (h : I n s) :
 codeAny (model prog w) A (.compLoop (.ListComp elt [⟨target, iter, ifs, 0⟩] scope pos) 0 it acc env) R s := by
 refine codeAny_loop rfl I (fun n s hI => ?_) n h
 show wpAny _ A ((compTurn (.ListComp elt [⟨target, iter, ifs, 0⟩] scope pos) 0 it acc env).onRaise (fun x => do noteFrame x env; theTreesLotGoes x)) _ _ s
 refine wpAny_noted ?_
 erw [compTurn_list]
 refine wpAny_bind (wpAny_standAt (wpAny_bind (wpAny_mono (turn n s hI) (fun r s₁ h₁ => ?_) fun ux ux h' => h')))
 cases r with
 | none => exact wpAny_pure h₁
 | some v =>
   refine wpAny_bind (wpAny_mono h₁ (fun ux s₁' h₁' => ?_) fun ux ux h' => h')
   refine wpAny_bind (wpAny_mono h₁' (fun ux s₂ h₂ => wpAny_bind (wpAny_mono h₂ (fun ok s₃ h₃ => ?_) fun ux ux h' => h')) fun ux ux h' => h')
   cases ok with
   | false => exact wpAny_pure ⟨rfl, h₃⟩
   | true =>
     exact wpAny_bind (wpAny_bind (wpAny_mono h₃ (fun x s₄ h₄ => wpAny_bind (wpAny_mono h₄ (fun ux s₅ h₅ => wpAny_pure (wpAny_pure ⟨rfl, h₅⟩)) fun ux ux h' => h')) fun ux ux h' => h'))
theorem bw {s s' : Shared} {G G' : Mem} (k : Kp s G s' G') {b : Addr} {o : Obj} (e : s.heap.get? b = some o) (h : G b = none) : G' b = none := by
 cases q : G' b with
 | none => rfl
 | some o' => rcases k.new b o' q with z | z
              · rw [h] at z; cases z
              · rw [e] at z; cases z
theorem gQ {xs : List D} {i : Nat} {d : D} (p : D → Bool) (f : D → D) (h : xs[i]? = some d) : ((xs.take (i + 1)).filter p).map f = ((xs.take i).filter p).map f ++ (if p d then [f d] else []) := by
 have e : xs.take (i + 1) = xs.take i ++ [d] := by
  erw [List.take_add_one, h]; rfl
 erw [e, List.filter_append, List.map_append]
 congr 1
 cases hp : p d <;> simp [hp]
noncomputable abbrev CInv (s : Shared) (G G₂ : Mem) (wr : List Addr) (Da : Addr) (St : Nat → Heap → Prop) (xs : List D) (f : D → D) (p : D → Bool) (ce : Env) (n : Nat) (s' : Shared) : Prop := ∃ i G' ys, Kp s G s' G' ∧ Le G₂ G' ∧ (∀ b ∈ wr, G' b = none) ∧ G' Da = none ∧ St i s'.heap ∧ s'.heap.PlainList Da ys ∧ RpL G' (((xs.take i).filter p).map f) ys.toList ∧ OwnL s'.heap G' ce ∧ i ≤ xs.length ∧ n = xs.length + 1 - i
theorem gy {elt target iter : Expr} {ifs : List Expr} {scope : Scope} {pos : Pos} {xs : List D} {cl : List (Str × Addr)} {f : D → D} {p : D → Bool} {ρc : List (Str × D)} {ρi : D → List (Str × D)} {RR : Value → Addr → Result → Shared → Prop}
 {s s₂ : Shared} {G G₂ : Mem} {I : Addr} {wr : List Addr} {St : Nat → Heap → Prop} {E : Value → Shared → Prop}
 (hcell : ∀ y ∈ scope.names, y.2 ≠ .cell) (hkind : scope.kind = .function)
 (hcap : ∀ C h G, En h G env ρ → En h G (compEnvC scope cl C env) ρc)
 (has : ∀ C d, d ∈ xs → As (model prog w) A target d (compEnvC scope cl C env) ρc (ρi d))
 (ht : ∀ C d, d ∈ xs → Ts (model prog w) A (compEnvC scope cl C env) (ρi d) ifs (p d))
 (he : ∀ C d, d ∈ xs → p d = true → Ev (model prog w) A (compEnvC scope cl C env) (ρi d) elt (f d))
 (hsz : xs.length ≤ 1000000) (hE : En s.heap G env ρ) (k₂ : Kp s G s₂ G₂) (hwr : ∀ b ∈ wr, s.heap.get? b = none ∧ G₂ b = none) (W : Wk prog w A target G₂ I wr xs St) (hst : St 0 s₂.heap)
 (hR : ∀ s' G' Da C ys n, Kp s G s' G' → Da ≠ C → s.heap.get? Da = none → s.heap.get? C = none → G' Da = none → G' C = none → (∃ o, s'.heap.get? C = some o) → s'.heap.get? Da = some { cls := .type "list", data := .seq ys n } → RpL G' ((xs.filter p).map f) ys.toList →
  (∃ m, s'.heap.Ns C m) → RR (.ref Da) C (.ok .next) s') :
 wpAny (model prog w) A (newList []) (fun acc s₃ => wpAny (model prog w) A (newFunctionEnv scope env.globals cl [] env.qual none .none (some env)) (fun cenv s₄ =>
  codeAny (model prog w) A (.compStart (.ListComp elt [⟨target, iter, ifs, 0⟩] scope pos) 0 (.ref I) acc { cenv with scope := relabel scope env }) (RR acc cenv.locals) s₄) E s₃) E s₂ := by
 refine wpAny_newObj_type (wpAny_newFunctionEnv hcell (by intro y hy; simp at hy) (fun h₁ hns₁ hsb₁ => ?_) hkind) (by size_fits)
 dsimp only at hns₁ hsb₁ ⊢
 generalize hH2 : s₂.heap.push { cls := .type "list", dict := none, data := .seq ([] : List Value).toArray } = H2 at hns₁ hsb₁ ⊢
 generalize hD : s₂.heap.objs.size = Da at *
 generalize hC : H2.objs.size = C at *
 have hCD : Da ≠ C := by rw [← hD, ← hC, ← hH2, Heap.size_push]; lia
 have fD : s₂.heap.get? Da = none := by rw [← hD]; exact aq _
 have fC : s₂.heap.get? C = none := Heap.get?_none_of_le (by rw [← hC, ← hH2, Heap.size_push]; lia)
 have old : ∀ b o, s₂.heap.get? b = some o → h₁.get? b = some o := fun b o e => by
  refine hsb₁.extBut b o (fun q => by rw [q, fC] at e; cases e) (Heap.get?_push_of_some _ ?_)
  rw [← hH2]; exact Heap.get?_push_of_some _ e
 have fs0 : ∀ {b}, s₂.heap.get? b = none → s.heap.get? b = none := fun {b} e => by
  cases z : s.heap.get? b with
  | none => rfl
  | some o => rw [k₂.hp b o z] at e; cases e
 have hacc₁ : h₁.PlainList Da #[] := ⟨0, hsb₁.extBut _ _ hCD (Heap.get?_push_of_some _ (by rw [← hH2, ← hD]; exact Heap.get?_push_size _ rfl))⟩
 have K₁ : Kp s G { s₂ with heap := h₁, toks := s₂.toks + ([] : List (Str × Value)).length } G₂ := by
  refine k₂.tr ⟨⟨h₁, _, rfl, old⟩, fun ux ux e => e, fun b o e => old b o (k₂.sub b o e), fun ux ux e => .inl e⟩
 have gD : G₂ Da = none := ai k₂.sub fD
 have gC : G₂ C = none := ai k₂.sub fC
 obtain ⟨mg, hg⟩ := hE.gl
 obtain ⟨mb, hb⟩ := hE.bu
 have Cg : C ≠ env.globals := fun q => by obtain ⟨o, _, _, e, _⟩ := hg; rw [← q, fs0 fC] at e; cases e
 have Cb : C ≠ env.builtins := fun q => by obtain ⟨o, _, _, e, _⟩ := hb; rw [← q, fs0 fC] at e; cases e
 have hcenv : (compEnvC scope cl C env).locals = C := rfl
 have hst₁ : St 0 h₁ := W.frame _ _ _ hst fun b ux o e => old b o e
 have X0 : ∀ b ∈ wr, s.heap.get? b = none := fun b hb => (hwr b hb).1
 have loop : codeAny (model prog w) A (.compLoop (.ListComp elt [⟨target, iter, ifs, 0⟩] scope pos) 0 (.ref I) (.ref Da) (compEnvC scope cl C env)) (RR (.ref Da) C)
  { s₂ with heap := h₁, toks := s₂.toks + ([] : List (Str × Value)).length } := by
  refine jQ (fun k s' => CInv s G G₂ wr Da St xs f p (compEnvC scope cl C env) k s') ?_ (xs.length + 1)
   ⟨0, G₂, #[], K₁, fun ux ux e => e, fun b hb => (hwr b hb).2, gD, hst₁, hacc₁, by simp [RpL], ⟨⟨_, hns₁⟩, gC, Cg, Cb, by simp [compEnvC, relabel, hkind]⟩, Nat.zero_le _, rfl⟩
  rintro k s' ⟨i, G', ys, K, le, gw, gD', st, acc, ry, own, hi, rfl⟩
  by_cases hlt : i < xs.length
  · have hd : xs[i]? = some xs[i] := List.getElem?_eq_getElem hlt
    have hmem : xs[i] ∈ xs := List.getElem_mem hlt
    refine wpAny_mono (W.item i xs[i] s' G' (fun v s₁' => wpAny (model prog w) A (assign target (compEnvC scope cl C env) v) (fun ux s₂ =>
     wpAny (model prog w) A (forIn ifs true fun c r => if r = true then do let ok ← isTrue c (compEnvC scope cl C env) (eval c (compEnvC scope cl C env)); pure (ForInStep.yield ok) else pure (ForInStep.yield r)) (fun ok s₃ =>
      if ok = true then wpAny (model prog w) A (eval elt (compEnvC scope cl C env)) (fun x s₄ =>
       wpAny (model prog w) A (call (.builtin "list.append") [.ref Da, x]) (fun ux s₅ => ∃ m, m < xs.length + 1 - i ∧ CInv s G G₂ wr Da St xs f p (compEnvC scope cl C env) m s₅) (notedBy (model prog w) A (compEnvC scope cl C env) fun e s' => RR (.ref Da) C (.error e) s') s₄) (notedBy (model prog w) A (compEnvC scope cl C env) fun e s' => RR (.ref Da) C (.error e) s') s₃
      else ∃ m, m < xs.length + 1 - i ∧ CInv s G G₂ wr Da St xs f p (compEnvC scope cl C env) m s₃) (notedBy (model prog w) A (compEnvC scope cl C env) fun e s' => RR (.ref Da) C (.error e) s') s₂) (notedBy (model prog w) A (compEnvC scope cl C env) fun e s' => RR (.ref Da) C (.error e) s') s₁')
     (notedBy (model prog w) A (compEnvC scope cl C env) fun e s' => RR (.ref Da) C (.error e) s') hd le K.sub gw st ?_) (fun r s₁ h₁ => ?_) fun ux ux h => h
    · intro v s₁ G₁ k₁ gw₁ rv st₁
      have K₁ : Kp s G s₁ G₁ := KpB.kp K k₁ X0
      have accD : Da ∉ wr := fun m => by have := W.live _ _ st Da m; have h0 := W.live 0 _ hst Da m; rw [fD] at h0; obtain ⟨o, e⟩ := h0; cases e
      have Cw : C ∉ wr := fun m => by have h0 := W.live 0 _ hst C m; rw [fC] at h0; obtain ⟨o, e⟩ := h0; cases e
      have acc₁ : s₁.heap.PlainList Da ys := acc.at fun o e => k₁.hp _ o accD e
      obtain ⟨mC, nC⟩ := own.ns
      have nC₁ : s₁.heap.Ns C mC := let ⟨o, es, ep, e, r⟩ := nC; ⟨o, es, ep, k₁.hp _ o Cw e, r⟩
      have gD₁ : G₁ Da = none := by
       obtain ⟨n, e⟩ := acc
       cases q : G₁ Da with
       | none => rfl
       | some o' => rcases k₁.new _ o' q with z | z
                    · rw [gD'] at z; cases z
                    · rw [e] at z; cases z
      have gC₁ : G₁ C = none := by
       obtain ⟨o, es, ep, e, _⟩ := nC
       have e : s'.heap.get? C = some o := e
       cases q : G₁ C with
       | none => rfl
       | some o' => rcases k₁.new _ o' q with z | z
                    · have := own.gn; rw [hcenv, z] at this; cases this
                    · rw [e] at z; cases z
      have hE₁ : En s₁.heap G₁ (compEnvC scope cl C env) ρc := hcap C _ _ (hE.go K₁)
      refine has C _ hmem s₁ G₁ v _ _ hE₁ ⟨⟨_, nC₁⟩, gC₁, Cg, Cb, own.fn⟩ rv fun s₂' k₂' hE₂ own₂ => ?_
      have XC : ∀ b ∈ [(compEnvC scope cl C env).locals], s.heap.get? b = none := fun b hb => by erw [List.mem_singleton.mp hb]; exact fs0 fC
      have K₂ : Kp s G s₂' G₁ := KpB.kp K₁ k₂' XC
      have acc₂ : s₂'.heap.PlainList Da ys := acc₁.at fun o e => k₂'.hp _ o (fun m => hCD (List.mem_singleton.mp m)) e
      have st₂ : St (i + 1) s₂'.heap := W.frame _ _ _ st₁ fun b hb o e => k₂'.hp b o (fun m => Cw (by have q : b = C := List.mem_singleton.mp m; rw [← q]; exact hb)) e
      refine ht C _ hmem s₂' G₁ _ _ hE₂ fun s₃ G₃ k₃ => ?_
      have K₃ : Kp s G s₃ G₃ := K₂.tr k₃
      have acc₃ : s₃.heap.PlainList Da ys := acc₂.at fun o e => k₃.hp _ o e
      have st₃ : St (i + 1) s₃.heap := W.frame _ _ _ st₂ fun b ux o e => k₃.hp b o e
      have own₃ : OwnL s₃.heap G₃ (compEnvC scope cl C env) := by
       obtain ⟨m, n⟩ := own₂.ns
       obtain ⟨o, es, ep, e, r⟩ := id n
       exact ⟨⟨m, n.keeps k₃.hp⟩, bw k₃ e own₂.gn, Cg, Cb, own.fn⟩
      have gw₃ : ∀ b ∈ wr, G₃ b = none := fun b hb => by
       obtain ⟨o, e⟩ := W.live _ _ st₂ b hb
       exact bw k₃ e (gw₁ b hb)
      have gD₃ : G₃ Da = none := by obtain ⟨n, e⟩ := acc₂; exact bw k₃ e gD₁
      have le₃ : Le G₂ G₃ := fun b o e => k₃.le b o (k₁.le b o (le b o e))
      have tk := gQ p f hd
      cases hp : p xs[i] with
      | false =>
        erw [if_neg (by decide)]
        refine ⟨xs.length + 1 - (i + 1), by lia, i + 1, G₃, ys, K₃, le₃, gw₃, gD₃, st₃, acc₃, ?_, own₃, hlt, rfl⟩
        erw [tk, hp]
        simpa using RpL.mono (fun b o e => k₃.le b o (k₁.le b o e)) ry
      | true =>
        erw [if_pos rfl]
        refine he C _ hmem hp s₃ G₃ _ _ (hE₂.go k₃) fun x s₄ G₄ k₄ rx => ?_
        have acc₄ : s₄.heap.PlainList Da ys := acc₃.at fun o e => k₄.hp _ o e
        have hys : ys.size ≤ sizeLine := by
         have e1 := ry.length
         have e2 : ((xs.take i).filter p).length ≤ (xs.take i).length := List.length_filter_le _ _
         have e3 : (xs.take i).length ≤ xs.length := by erw [List.length_take]; lia
         have e4 : ys.toList.length = ys.size := by simp
         rw [List.length_map] at e1
         erw [sizeLine_eq]; lia
        refine wpAny_list_append_plain (hsz := hys) acc₄ fun h₅ acc₅ hs₅ => ?_
        have gD₄ : G₄ Da = none := by obtain ⟨n, e⟩ := acc₃; exact bw k₄ e gD₃
        have k₅ : KpB [Da] s₄ G₄ { s₄ with heap := h₅ } G₄ := KpB.same (t := s₄.toks) k₄.sub hs₅ gD₄
        have XD : ∀ b ∈ [Da], s.heap.get? b = none := fun b hb => by erw [List.mem_singleton.mp hb]; exact fs0 fD
        have st₄ : St (i + 1) s₄.heap := W.frame _ _ _ st₃ fun b ux o e => k₄.hp b o e
        refine ⟨xs.length + 1 - (i + 1), by lia, i + 1, G₄, ys.push x, KpB.kp (K₃.tr k₄) k₅ XD, fun b o e => k₄.le b o (le₃ b o e), fun b hb => ?_, gD₄, ?_, acc₅, ?_, ?_, hlt, rfl⟩
        · obtain ⟨o, e⟩ := W.live _ _ st₃ b hb
          exact bw k₄ e (gw₃ b hb)
        · exact W.frame _ _ _ st₄ fun b hb o e => k₅.hp b o (fun m => accD (by rw [← List.mem_singleton.mp m]; exact hb)) e
        · erw [tk, hp]
          erw [Array.toList_push]
          exact RpL.append (RpL.mono (fun b o e => k₄.le b o (k₃.le b o (k₁.le b o e))) ry) (by erw [if_pos rfl]; exact RpL.one rx)
        · obtain ⟨m, n⟩ := own₃.ns
          obtain ⟨o, es, ep, e, r⟩ := id n
          exact ⟨⟨m, (n.keeps k₄.hp).sameBut hs₅ (Ne.symm hCD)⟩, bw k₄ e own₃.gn, Cg, Cb, own.fn⟩
    · cases r with
      | none => exact h₁.elim
      | some v => exact h₁
  · have hin : i = xs.length := by lia
    subst hin
    refine W.done s' G' _ _ le K.sub gw st fun s₁ k₁ => ?_
    have K₁ : Kp s G s₁ G' := KpB.kp K k₁ X0
    have accD : Da ∉ wr := fun m => by have h0 := W.live 0 _ hst Da m; rw [fD] at h0; obtain ⟨o, e⟩ := h0; cases e
    have Cw : C ∉ wr := fun m => by have h0 := W.live 0 _ hst C m; rw [fC] at h0; obtain ⟨o, e⟩ := h0; cases e
    obtain ⟨mC, nC⟩ := own.ns
    have nC₁ : s₁.heap.Ns C mC := let ⟨o, es, ep, e, r⟩ := nC; ⟨o, es, ep, k₁.hp _ o Cw e, r⟩
    obtain ⟨n, eD⟩ := acc.at (h' := s₁.heap) fun o e => k₁.hp _ o accD e
    rw [List.take_length] at ry
    obtain ⟨oC, _, _, eC, _⟩ := id nC₁
    exact hR s₁ G' Da C ys n K₁ hCD (fs0 fD) (fs0 fC) gD' own.gn ⟨oC, eC⟩ eD ry ⟨mC, nC₁⟩
 exact codeAny_compStart_list loop (W.self 0 _ G₂ _ _ (fun ux ux e => e) K₁.sub hst₁ loop)
theorem Kp.join {s s' : Shared} {G G' : Mem} {a : Addr} {o : Obj} (K : Kp s G s' G') (ha : s.heap.get? a = none) (g : G' a = none) (e : s'.heap.get? a = some o) : Kp s G s' (put G' a o) := by
 refine ⟨K.k, fun b o' e' => ?_, fun b o' e' => ?_, fun b o' e' => ?_⟩
 · unfold put
   erw [if_neg (fun q => by have := K.le b o' e'; rw [q, g] at this; cases this)]
   exact K.le b o' e'
 · unfold put at e'
   by_cases q : b = a
   · rw [if_pos q] at e'; cases e'; erw [q]; exact e
   · rw [if_neg q] at e'; exact K.sub b o' e'
 · unfold put at e'
   by_cases q : b = a
   · erw [q]; exact .inr ha
   · rw [if_neg q] at e'; exact K.new b o' e'
theorem ev {G : Mem} {a : Addr} {o : Obj} (g : G a = none) : Le G (put G a o) := fun b o' e => by
 unfold put
 erw [if_neg (fun q => by rw [q, g] at e; cases e)]
 exact e
theorem bj {elt target iter : Expr} {ifs : List Expr} {scope : Scope} {pos : Pos} {xs : List D} {cl : List (Str × Addr)} (f : D → D) (p : D → Bool) (ρc : List (Str × D)) (ρi : D → List (Str × D))
 (hit : It prog w A target env ρ iter xs) (hclos : closureFor scope env = pure cl) (hcell : ∀ y ∈ scope.names, y.2 ≠ .cell) (hkind : scope.kind = .function)
 (hnames : ∀ y ∈ scope.names, y.2 = .local → scope.names.lookup y.1 = some .local)
 (hcap : ∀ C h G, En h G env ρ → En h G (compEnvC scope cl C env) ρc)
 (has : ∀ C d, d ∈ xs → As (model prog w) A target d (compEnvC scope cl C env) ρc (ρi d))
 (ht : ∀ C d, d ∈ xs → Ts (model prog w) A (compEnvC scope cl C env) (ρi d) ifs (p d))
 (he : ∀ C d, d ∈ xs → p d = true → Ev (model prog w) A (compEnvC scope cl C env) (ρi d) elt (f d))
 (hsz : xs.length ≤ 1000000) (hs : ∀ x, foldedSetIterable iter env x = pure x := by intro _; rfl) :
 Ev (model prog w) A env ρ (.ListComp elt [⟨target, iter, ifs, 0⟩] scope pos) (.l ((xs.filter p).map f)) := by
 intro s G Q E hE hQ
 erw [eval_ListComp]
 refine wpAny_comprehension_free (use := none) rfl hs hclos hkind hnames (hit s G _ _ hE fun I wr St s₂ G₂ k₂ hwr W hst => ?_)
 refine gy (RR := fun acc C => compPost (model prog w) A E none Q acc C) hcell hkind hcap has ht he hsz hE k₂ hwr W hst ?_
 intro s' G' Da C ys n K hCD fD fC gD gC hoC eD ry hns
 obtain ⟨m, hm⟩ := hns
 refine ⟨m, hm, fun h' hs' => ?_⟩
 have k₂ : KpB [C] s' G' { s' with heap := h' } G' := KpB.same (t := s'.toks) K.sub hs' gC
 have K₂ : Kp s G { s' with heap := h' } G' := KpB.kp K k₂ fun b hb => by erw [List.mem_singleton.mp hb]; exact fC
 have eD' : h'.get? Da = some { cls := .type "list", data := .seq ys n } := hs'.extBut _ _ hCD eD
 exact hQ _ _ _ (K₂.join fD gD eD') ⟨Da, ys, n, rfl, a9 _ _ _, RpL.mono (ev gD) ry⟩
end
set_option tactic.hygienic false
section
variable {prog : Program} {w : World} {A : Around} {env : Env} {ρ ρ' : List (Str × D)}
noncomputable def StG (G₀ : Mem) (wr : List Addr) (St : Nat → Heap → Prop) (i : Nat) (h : Heap) : Prop :=
 (∀ b ∈ wr, ∃ o, h.get? b = some o) ∧ ∀ h', (∀ b ∈ wr, ∀ o, h.get? b = some o → h'.get? b = some o) → In G₀ h' → St i h'
theorem dL {G₀ : Mem} {fp wr : List Addr} {St : Nat → Heap → Prop} (hfr : ∀ i h h', St i h → (∀ b ∈ fp, ∀ o, h.get? b = some o → h'.get? b = some o) → St i h')
 (hlive : ∀ i h, St i h → ∀ b ∈ wr, ∃ o, h.get? b = some o) (hG : ∀ b ∈ fp, b ∉ wr → ∃ o, G₀ b = some o) {i : Nat} {h : Heap} (st : St i h) (hin : In G₀ h) : StG G₀ wr St i h := by
 refine ⟨hlive i h st, fun h' hk hin' => hfr _ _ _ st fun b hb o e => ?_⟩
 by_cases q : b ∈ wr
 · exact hk b q o e
 · obtain ⟨o', e'⟩ := hG b hb q
   rw [hin _ _ e'] at e; cases e
   exact hin' _ _ e'
theorem StG.frame {G₀ : Mem} {wr : List Addr} {St : Nat → Heap → Prop} {i : Nat} {h h' : Heap} (x : StG G₀ wr St i h) (hk : ∀ b ∈ wr, ∀ o, h.get? b = some o → h'.get? b = some o) : StG G₀ wr St i h' :=
 ⟨fun b hb => let ⟨o, e⟩ := x.1 b hb; ⟨o, hk b hb o e⟩, fun h'' hk' hin => x.2 h'' (fun b hb o e => hk' b hb o (hk b hb o e)) hin⟩
theorem StG.st {G₀ : Mem} {wr : List Addr} {St : Nat → Heap → Prop} {i : Nat} {h : Heap} (x : StG G₀ wr St i h) (hin : In G₀ h) : St i h := x.2 h (fun ux ux ux e => e) hin
theorem eJ {wr : List Addr} {s : Shared} {G : Mem} {h' : Heap} {tk : Nat} (hin : In G s.heap) (hw : ∀ b ∈ wr, G b = none) (hk : ∀ b o, b ∉ wr → s.heap.get? b = some o → h'.get? b = some o) : KpB wr s G { s with heap := h', toks := tk } G :=
 ⟨⟨h', tk, rfl, hk⟩, fun ux ux e => e, fun b o e => hk b o (fun q => by rw [hw b q] at e; cases e) (hin b o e), fun ux ux e => .inl e⟩
theorem Wk.of {I : Addr} {fp wr : List Addr} {n : Nat} {P : Nat → Value → Prop} {St : Nat → Heap → Prop} {G₀ : Mem} {xs : List D} {x : Str} {px : Pos} (W : Walks prog w A I fp wr n P St) (hn : n = xs.length)
 (hP : ∀ i v d, xs[i]? = some d → P i v → Rp G₀ d v) (hlive : ∀ i h, St i h → ∀ b ∈ wr, ∃ o, h.get? b = some o) (hG : ∀ b ∈ fp, b ∉ wr → ∃ o, G₀ b = some o) :
 Wk prog w A (.Name x px) G₀ I wr xs (StG G₀ wr St) := by
 subst hn
 refine ⟨fun i h h' st hk => st.frame hk, fun i h st => st.1, fun i d s G Q E hd hle hin hw st hQ => ?_, fun s G Q E hle hin hw st hQ => ?_, fun i s G Q E hle hin st hq => ?_⟩
 · have hin₀ : In G₀ s.heap := fun b o e => hin b o (hle b o e)
   refine W.item i s _ _ (List.getElem?_eq_some_iff.mp hd).1 (st.st hin₀) fun v h' tk hp st' hk => ?_
   have K : KpB wr s G { s with heap := h', toks := tk } G := eJ hin hw hk
   exact wpAny_pure (hQ v _ G K hw ((hP i v d hd hp).mono hle) (dL W.frame hlive hG st' fun b o e => K.sub b o (hle b o e)))
 · have hin₀ : In G₀ s.heap := fun b o e => hin b o (hle b o e)
   exact W.done s _ _ (st.st hin₀) fun h' tk hk => hQ _ (eJ hin hw hk)
 · exact W.self i s Q E (st.st fun b o e => hin b o (hle b o e)) hq
theorem Wk.ofT {I : Addr} {fp wr : List Addr} {n : Nat} {Pt : Nat → Array Value → Prop} {St : Nat → Heap → Prop} {Mid : Nat → Addr → Heap → Prop} {G₀ : Mem} {xs : List D} {elts : List Expr} {k : Nat} {px : Pos} (W : WalksT prog w A I fp wr n Pt St Mid) (hn : n = xs.length)
 (hP : ∀ i vals d, xs[i]? = some d → Pt i vals → ∃ ds, d = .t ds ∧ RpL G₀ ds vals.toList) (hlive : ∀ i h, St i h → ∀ b ∈ wr, ∃ o, h.get? b = some o) (hG : ∀ b ∈ fp, b ∉ wr → ∃ o, G₀ b = some o) :
 Wk prog w A (.Tuple elts k px) G₀ I wr xs (StG G₀ wr St) := by
 subst hn
 refine ⟨fun i h h' st hk => st.frame hk, fun i h st => st.1, fun i d s G Q E hd hle hin hw st hQ => ?_, fun s G Q E hle hin hw st hQ => ?_, fun i s G Q E hle hin st hq => ?_⟩
 · have hin₀ : In G₀ s.heap := fun b o e => hin b o (hle b o e)
   refine W.item i s _ _ (List.getElem?_eq_some_iff.mp hd).1 (st.st hin₀) fun T vals h' tk hp hT ht hm hk => ?_
   obtain ⟨ds, rfl, hr⟩ := hP i vals d hd hp
   obtain ⟨o, eo, hc, m, ho⟩ := ht
   have hTw : T ∉ wr := W.apart _ _ _ hm
   have gT : G T = none := by
    refine ai hin ?_
    exact Heap.get?_none_of_le hT
   have K : KpB wr s G { s with heap := h', toks := tk } G := eJ hin hw hk
   refine W.go elts k px i T { s with heap := h', toks := tk } _ _ hm fun h'' st' hk' => ?_
   have K' : KpB wr s G { s with heap := h'', toks := tk } G := eJ hin hw fun b o q e => hk' b o q (hk b o q e)
   have eT : h''.get? T = some o := hk' T o hTw eo
   refine hQ (.ref T) { s with heap := h'', toks := tk } (put G T o) ⟨K'.k, ?_, ?_, ?_⟩ (fun b hb => ?_) ?_ (dL W.frame hlive hG st' fun b o e => K'.sub b o (hle b o e))
   · exact ev gT
   · intro b o' e
     unfold put at e
     by_cases q : b = T
     · rw [if_pos q] at e; cases e; erw [q]; exact eT
     · rw [if_neg q] at e; exact K'.sub b o' e
   · intro b o' e
     unfold put at e
     by_cases q : b = T
     · erw [q]; exact .inr (Heap.get?_none_of_le hT)
     · rw [if_neg q] at e; exact .inl e
   · unfold put
     erw [if_neg (fun (q : b = T) => hTw (q ▸ hb))]
     exact hw b hb
   · exact ⟨T, vals, o, m, rfl, a9 _ _ _, hc, ho, (hr.mono hle).mono (ev gT)⟩
 · have hin₀ : In G₀ s.heap := fun b o e => hin b o (hle b o e)
   exact W.done s _ _ (st.st hin₀) fun h' tk hk => hQ _ (eJ hin hw hk)
 · exact W.self i s Q E (st.st fun b o e => hin b o (hle b o e)) hq
noncomputable def ItC (prog : Program) (w : World) (A : Around) (target : Expr) (f : Value) (ds : List D) (xs : List D) : Prop :=
 ∀ (s : Shared) (G : Mem) (Q E : Value → Shared → Prop) (vs : List Value), In G s.heap → RpL G ds vs →
   (∀ I wr St s' G', Kp s G s' G' → (∀ b ∈ wr, s.heap.get? b = none ∧ G' b = none) → Wk prog w A target G' I wr xs St → St 0 s'.heap → Q (.ref I) s') →
   wpAny (model prog w) A (call f vs) (fun x s₁ => wpAny (model prog w) A (pyIter x) Q E s₁) E s
theorem aH {x : Str} {p pos : Pos} {T : String} {e target : Expr} {es : List Expr} {ds xs : List D} (hf : (x, .v (.type T)) ∈ ρ) (ha : EvL (model prog w) A env ρ (e :: es) ds) (hc : ItC prog w A target (.type T) ds xs)
 (hx : (x == ("__debug__" : Str)) = false := by decide) (hk : (env.kindOf x).isSome = true := by rfl) (he : starEach (e :: es) env = (false, eval e env) :: starEach es env := by rfl) (hplain : (backTo pos (starEach es env)).any (·.1) = false := by rfl) :
 It prog w A target env ρ (.Call (.Name x p) (e :: es) [] pos) xs := by
 intro s G Q E hE hQ
 refine Call_Name rfl (aa hf hx hk s G _ _ hE fun f s₁ G₁ k₁ r => ?_)
 have r : f = .type T := r
 subst r
 refine PyProof.Rows.callWith_type1 (ha pos s₁ G₁ _ _ (hE.go k₁) fun vs s₂ G₂ k₂ r₂ => hc s₂ G₂ _ _ vs k₂.sub r₂ fun I wr St s₃ G₃ k₃ hw W st => hQ I wr St s₃ G₃ ((k₁.tr k₂).tr k₃) (fun b hb => ⟨?_, (hw b hb).2⟩) W st) he hplain
 cases z : s.heap.get? b with
 | none => rfl
 | some o => have := (hw b hb).1; rw [k₂.hp b o (k₁.hp b o z)] at this; cases this
noncomputable def rng (a b : Int) : List D := (List.range (b - a).toNat).map fun (i : Nat) => .i (a + i)
theorem a8 (a b : Int) : (rng a b).length = (b - a).toNat := by unfold rng; erw [List.length_map, List.length_range]
theorem dZ {a b : Int} {i : Nat} {d : D} (h : (rng a b)[i]? = some d) : d = .i (a + i) := by
 unfold rng at h
 rw [List.getElem?_map] at h
 cases q : (List.range (b - a).toNat)[i]? with
 | none => rw [q] at h; cases h
 | some j =>
   rw [q] at h
   obtain ⟨hl, e⟩ := List.getElem?_eq_some_iff.mp q
   rw [List.getElem_range] at e
   subst e
   exact (Option.some.inj h).symm
theorem aW {s : Shared} {h' : Heap} {G : Mem} {tk : Nat} (hG : In G s.heap) (hk : ∀ b o, s.heap.get? b = some o → h'.get? b = some o) : Kp s G { s with heap := h', toks := tk } G :=
 ⟨⟨h', tk, rfl, hk⟩, fun ux ux e => e, fun b o e => hk b o (hG b o e), fun ux ux e => .inl e⟩
theorem fZ {x : Str} {px : Pos} {a b : Int} {r : Addr} {t u v : Tok} {s s₀ : Shared} {G : Mem} {Q E : Value → Shared → Prop} (hh : A.handled = none) (hr : IsRange s.heap r a b 1 t u v) (hsm : Builtin.Range.small a b 1 = true) (k : Kp s₀ G s G)
 (hQ : ∀ I wr St s' G', Kp s₀ G s' G' → (∀ b ∈ wr, s₀.heap.get? b = none ∧ G' b = none) → Wk prog w A (.Name x px) G' I wr (rng a b) St → St 0 s'.heap → Q (.ref I) s') :
 wpAny (model prog w) A (pyIter (.ref r)) Q E s := by
 refine wpAny_pyIter_range hr hsm ?_
 have K := aW (tk := s.toks) k.sub (h' := s.heap.push { cls := .type "range_iterator", data := .fields #[rawInt a, rawInt (Builtin.Range.rangeSize a b 1), rawInt 1] }) fun b o e => Heap.get?_push_of_some _ e
 have fr := aq s.heap
 have e0 : ((b - a).toNat : Int) = Builtin.Range.rangeSize a b 1 := by erw [rangeSize_one]; split <;> lia
 refine hQ s.heap.objs.size [s.heap.objs.size] _ _ G (k.tr K) (fun b hb => ?_) (Wk.of (fp := [s.heap.objs.size]) (Walks.range hh s.heap.objs.size a 1 (b - a).toNat) (a8 a b).symm (fun i v d hd hp => ?_) (fun i h st b hb => ?_) (fun b hb hn => absurd hb hn)) (dL (Walks.range (prog := prog) (w := w) (A := A) hh s.heap.objs.size a 1 (b - a).toNat).frame (fun i h st b hb => ?_) (fun b hb hn => absurd hb hn) ?_ K.sub)
 · erw [List.mem_singleton.mp hb]
   refine ⟨?_, ai k.sub fr⟩
   cases z : s₀.heap.get? s.heap.objs.size with
   | none => rfl
   | some o => have := k.hp _ _ z; rw [fr] at this; cases this
 · obtain ⟨t, rfl⟩ := hp
   erw [dZ hd, Int.mul_one]
   exact ⟨t, rfl⟩
 · erw [List.mem_singleton.mp hb]; exact ⟨_, st⟩
 · erw [List.mem_singleton.mp hb]; exact ⟨_, st⟩
 · show Heap.get? _ _ = _
   erw [Heap.get?_push_size _ rfl, e0]
   simp
theorem ca {x : Str} {px : Pos} {b : Int} (hh : A.handled = none) (hb : -(2 ^ 62) ≤ b) (hb' : b < 2 ^ 62) : ItC prog w A (.Name x px) (.type "range") [.i b] (rng 0 b) := by
 rintro s G Q E vs hG ⟨v, r, rfl, ⟨t, rfl⟩, rfl⟩ hQ
 refine call_range_1 (fZ (s₀ := s) hh (IsRange.new ..) (small_one (by lia) (by lia) hb hb') ?_ hQ)
 exact aW hG fun b o e => Heap.get?_push_of_some _ e
theorem iS {x : Str} {px : Pos} {a b : Int} (hh : A.handled = none) (ha : -(2 ^ 62) ≤ a) (ha' : a < 2 ^ 62) (hb : -(2 ^ 62) ≤ b) (hb' : b < 2 ^ 62) : ItC prog w A (.Name x px) (.type "range") [.i a, .i b] (rng a b) := by
 rintro s G Q E vs hG ⟨v, r, rfl, ⟨t, rfl⟩, v', r', rfl, ⟨t', rfl⟩, rfl⟩ hQ
 refine call_range_2 (fZ (s₀ := s) hh (IsRange.new ..) (small_one ha ha' hb hb') ?_ hQ)
 exact aW hG fun b o e => Heap.get?_push_of_some _ e
theorem lm {e : Expr} {xs : List D} {x : Str} {px : Pos} (hh : A.handled = none) (h : Ev (model prog w) A env ρ e (.t xs)) : It prog w A (.Name x px) env ρ e xs := by
 intro s G Q E hE hQ
 refine h s G _ _ hE fun v s₁ G₁ k₁ r => ?_
 obtain ⟨a, vs, o, k, rfl, g, hc, ho, q⟩ := r
 have hl : s₁.heap.IsTuple a vs := ⟨o, k₁.sub _ _ g, hc, _, ho⟩
 have hsz : vs.size = xs.length := by have := q.length; simpa using this
 refine wpAny_pyIter_tuple hl ?_
 have K := aW (tk := s₁.toks) k₁.sub (h' := s₁.heap.push { cls := .type "tuple_iterator", data := .fields #[.ref a, .int 0 0] }) fun b o e => Heap.get?_push_of_some _ e
 have fr := aq s₁.heap
 have ne : a ≠ s₁.heap.objs.size := fun q => by have := k₁.sub _ _ g; rw [q, fr] at this; cases this
 have lv : ∀ (i : Nat) (h : Heap), h.IsTupleIter s₁.heap.objs.size a i ∧ h.IsTuple a vs → ∀ b ∈ [s₁.heap.objs.size], ∃ o, h.get? b = some o := fun i h st b hb => by
  erw [List.mem_singleton.mp hb]; obtain ⟨⟨o, e, _⟩, _⟩ := st; exact ⟨o, e⟩
 have hG : ∀ b ∈ [s₁.heap.objs.size, a], b ∉ [s₁.heap.objs.size] → ∃ o, G₁ b = some o := fun b hb hn => by
  rcases List.mem_cons.mp hb with q | q
  · exact absurd (by erw [q]; exact .head _) hn
  · erw [List.mem_singleton.mp q]; exact ⟨o, g⟩
 refine hQ s₁.heap.objs.size [s₁.heap.objs.size] _ _ G₁ (k₁.tr K) (fun b hb => ?_) (Wk.of (fp := [s₁.heap.objs.size, a]) (Walks.tuple hh s₁.heap.objs.size a ne vs) hsz (fun i v d hd hp => ?_) lv hG) (dL (Walks.tuple (prog := prog) (w := w) (A := A) hh s₁.heap.objs.size a ne vs).frame lv hG ?_ K.sub)
 · erw [List.mem_singleton.mp hb]
   refine ⟨?_, ai k₁.sub fr⟩
   cases z : s.heap.get? s₁.heap.objs.size with
   | none => rfl
   | some o => have := k₁.hp _ _ z; rw [fr] at this; cases this
 · obtain ⟨v', hv, rv⟩ := q.get hd
   have : vs[i]? = some v' := by simpa using hv
   rw [this] at hp; cases hp
   exact rv
 · exact ⟨⟨_, Heap.get?_push_size _ rfl, rfl, rfl⟩, ⟨o, Heap.get?_push_of_some _ (k₁.sub _ _ g), hc, _, ho⟩⟩
theorem fresh_in {s : Shared} {s₁ : Shared} {G G₁ : Mem} (k : Kp s G s₁ G₁) {b : Addr} (h : s₁.heap.get? b = none) : s.heap.get? b = none := by
 cases z : s.heap.get? b with
 | none => rfl
 | some o => rw [k.hp b o z] at h; cases h
theorem cW {h : Heap} {b : Addr} (hb : h.objs.size ≤ b) : h.get? b = none := Heap.get?_none_of_le hb
theorem dU {xs : List D} {elts : List Expr} {k : Nat} {px : Pos} (hh : A.handled = none) : ItC prog w A (.Tuple elts k px) (.type "enumerate") [.l xs] (xs.mapIdx fun i d => .t [.i i, d]) := by
 rintro s G Q E vs hG ⟨v, r, rfl, rv, rfl⟩ hQ
 obtain ⟨l, its, n, rfl, g, q⟩ := rv
 have hl : s.heap.IsList l its := ⟨_, hG _ _ g, rfl, _, rfl⟩
 have hsz : its.size = xs.length := by have := q.length; simpa using this
 refine call_enumerate_list hl fun h' he hi hsz' hk => wpAny_pyIter_enum he ?_
 have K : Kp s G { s with heap := h' } G := aW (tk := s.toks) hG hk
 have ll : @LT.lt Nat _ l s.heap.objs.size := Heap.lt_size (hG _ _ g)
 have W := WalksT.enumerate (prog := prog) (w := w) hh (s.heap.objs.size + 1) s.heap.objs.size l (neN (by lia)) (neN (by lia)) (neN (by lia)) its
 have lv : ∀ (i : Nat) (h : Heap), ((∃ old, IsEnum h (s.heap.objs.size + 1) s.heap.objs.size i old) ∧ h.IsListIter s.heap.objs.size l i ∧ h.IsList l its) → ∀ b ∈ [s.heap.objs.size + 1, s.heap.objs.size], ∃ o, h.get? b = some o := fun i h st b hb => by
  obtain ⟨⟨old, e⟩, ⟨o, e', _⟩, _⟩ := st
  rcases List.mem_cons.mp hb with q | q
  · erw [q]; exact ⟨_, e⟩
  · erw [List.mem_singleton.mp q]; exact ⟨o, e'⟩
 have hGl : ∀ b ∈ [s.heap.objs.size + 1, s.heap.objs.size, l], b ∉ [s.heap.objs.size + 1, s.heap.objs.size] → ∃ o, G b = some o := fun b hb hn => by
  rcases List.mem_cons.mp hb with q | q
  · exact absurd (by erw [q]; exact .head _) hn
  · rcases List.mem_cons.mp q with q | q
    · exact absurd (by erw [q]; exact .tail _ (.head _)) hn
    · erw [List.mem_singleton.mp q]; exact ⟨_, g⟩
 refine hQ _ [s.heap.objs.size + 1, s.heap.objs.size] _ { s with heap := h' } G K (fun b hb => ?_) (Wk.ofT W (by erw [List.length_mapIdx]; exact hsz) (fun i vals d hd hp => ?_) lv hGl) (dL W.frame lv hGl ⟨⟨_, he⟩, hi, hl.at fun o e => hk _ o e⟩ K.sub)
 · have : s.heap.objs.size ≤ b := by
    rcases List.mem_cons.mp hb with q | q
    · erw [q]; exact Nat.le_succ _
    · erw [List.mem_singleton.mp q]; exact Nat.le_refl _
   exact ⟨cW this, ai hG (cW this)⟩
 · obtain ⟨t, x, hx, rfl⟩ := hp
   rw [List.getElem?_mapIdx] at hd
   cases z : xs[i]? with
   | none => rw [z] at hd; cases hd
   | some d' =>
     rw [z] at hd
     cases hd
     obtain ⟨v', hv, rv⟩ := q.get z
     have : its[i]? = some v' := by simpa using hv
     rw [this] at hx; cases hx
     exact ⟨_, rfl, _, _, rfl, ⟨t, rfl⟩, _, _, rfl, rv, rfl⟩
theorem hX {xs ys : List D} {elts : List Expr} {k : Nat} {px : Pos} (hh : A.handled = none) : ItC prog w A (.Tuple elts k px) (.type "zip") [.l xs, .l ys] (List.zipWith (fun a b => .t [a, b]) xs ys) := by
 rintro s G Q E vs hG ⟨v, r, rfl, rv, v', r', rfl, rv', rfl⟩ hQ
 obtain ⟨l1, its, n, rfl, g1, q1⟩ := rv
 obtain ⟨l2, its2, n2, rfl, g2, q2⟩ := rv'
 have hl1 : s.heap.IsList l1 its := ⟨_, hG _ _ g1, rfl, _, rfl⟩
 have hl2 : s.heap.IsList l2 its2 := ⟨_, hG _ _ g2, rfl, _, rfl⟩
 have hs1 : its.size = xs.length := by have := q1.length; simpa using this
 have hs2 : its2.size = ys.length := by have := q2.length; simpa using this
 generalize hS : s.heap.objs.size = S
 have e1 : @LT.lt Nat _ l1 S := by rw [← hS]; exact Heap.lt_size (hG _ _ g1)
 have e2 : @LT.lt Nat _ l2 S := by rw [← hS]; exact Heap.lt_size (hG _ _ g2)
 refine call_zip_2 hl1 hl2 fun h' hz hTI hTO hi1 hi2 hsz' hk => wpAny_pyIter_zip hz ?_
 rw [hS] at hz hTI hTO hi1 hi2 hsz' ⊢
 have D' : ZipApart (S + 4) (S + 2) (S + 3) S (S + 1) l1 l2 := by constructor <;> exact neN (by lia)
 have W := WalksT.zip2 (prog := prog) (w := w) hh (S + 4) (S + 2) (S + 3) S (S + 1) l1 l2 D' its its2
 have K : Kp s G { s with heap := h' } (put G (S + 2) { cls := .type "tuple", data := .seq #[.ref S, .ref (S + 1)] }) :=
  (aW (tk := s.toks) hG hk).join (cW (by lia)) (ai hG (cW (by lia))) hTI
 have lv : ∀ (i : Nat) (h : Heap), (IsZip h (S + 4) (S + 2) (S + 3) .none ∧ IsPair h (S + 2) (.ref S) (.ref (S + 1)) ∧ (∃ a b, IsPair h (S + 3) a b) ∧ h.IsListIter S l1 i ∧ h.IsListIter (S + 1) l2 i ∧ h.IsList l1 its ∧ h.IsList l2 its2) →
  ∀ b ∈ [S + 4, S + 3, S, S + 1], ∃ o, h.get? b = some o := fun i h st b hb => by
  obtain ⟨a1, a2, ⟨_, _, a3⟩, ⟨o4, a4, _⟩, ⟨o5, a5, _⟩, _⟩ := st
  simp at hb
  rcases hb with rfl | rfl | rfl | rfl
  · exact ⟨_, a1⟩
  · exact ⟨_, a3⟩
  · exact ⟨o4, a4⟩
  · exact ⟨o5, a5⟩
 have hGl : ∀ b ∈ [S + 4, S + 2, S + 3, S, S + 1, l1, l2], b ∉ [S + 4, S + 3, S, S + 1] → ∃ o, put G (S + 2) { cls := .type "tuple", data := .seq #[.ref S, .ref (S + 1)] } b = some o := fun b hb hn => by
  simp at hb hn
  rcases hb with rfl | rfl | rfl | rfl | rfl | rfl | rfl
  · lia
  · exact ⟨_, a9 _ _ _⟩
  · lia
  · lia
  · lia
  · exact ⟨_, by unfold put; erw [if_neg (neN (by lia))]; exact g1⟩
  · exact ⟨_, by unfold put; erw [if_neg (neN (by lia))]; exact g2⟩
 refine hQ _ [S + 4, S + 3, S, S + 1] _ { s with heap := h' } _ K (fun b hb => ?_) (Wk.ofT W (by erw [List.length_zipWith, hs1, hs2]) (fun i vals d hd hp => ?_) lv hGl) (dL W.frame lv hGl ⟨hz, hTI, ⟨_, _, hTO⟩, hi1, hi2, hl1.at fun o e => hk _ o e, hl2.at fun o e => hk _ o e⟩ K.sub)
 · simp at hb
   have hb' : s.heap.objs.size ≤ b ∧ b ≠ S + 2 := by
    rcases hb with rfl | rfl | rfl | rfl <;> exact ⟨by lia, neN (by lia)⟩
   refine ⟨cW hb'.1, ?_⟩
   unfold put
   erw [if_neg hb'.2]
   exact ai hG (cW hb'.1)
 · obtain ⟨x, y, hx, hy, rfl⟩ := hp
   rw [List.getElem?_zipWith] at hd
   cases z1 : xs[i]? with
   | none => rw [z1] at hd; simp at hd
   | some d1 =>
     cases z2 : ys[i]? with
     | none => rw [z1, z2] at hd; simp at hd
     | some d2 =>
       rw [z1, z2] at hd
       simp at hd
       subst hd
       obtain ⟨v1, hv1, rv1⟩ := q1.get z1
       obtain ⟨v2, hv2, rv2⟩ := q2.get z2
       have t1 : its[i]? = some v1 := by simpa using hv1
       have t2 : its2[i]? = some v2 := by simpa using hv2
       rw [t1] at hx; cases hx
       rw [t2] at hy; cases hy
       have le : Le G (put G (S + 2) { cls := .type "tuple", data := .seq #[.ref S, .ref (S + 1)] }) := ev (ai hG (cW (by lia)))
       exact ⟨_, rfl, _, _, rfl, rv1.mono le, _, _, rfl, rv2.mono le, rfl⟩
end
set_option tactic.hygienic false
mutual
noncomputable def toP : D → PyData
 | .i n => .int n
 | .b c => .bool c
 | .s x => .str x
 | .n => .none
 | .l xs => .list (gR xs)
 | .t xs => .tuple (gR xs)
 | .v _ => .none
 | .g _ _ => .none
noncomputable def gR : List D → List PyData
 | [] => []
 | x :: xs => toP x :: gR xs
end
mutual
noncomputable def dat : D → Bool
 | .v _ => false
 | .g _ _ => false
 | .l xs | .t xs => ki xs
 | _ => true
noncomputable def ki : List D → Bool
 | [] => true
 | x :: xs => dat x && ki xs
end
mutual
theorem dW {G : Mem} {h : Heap} (hG : In G h) : ∀ {d : D} {v : Value}, dat d = true → Rp G d v → ∃ as, Reads h v (toP d) as
 | .i n, v, _, ⟨t, e⟩ => by subst e; exact ⟨_, .int n t⟩
 | .b c, v, _, e => by have e : v = .bool c := e; subst e; exact ⟨_, .bool c⟩
 | .s x, v, _, ⟨t, e⟩ => by subst e; exact ⟨_, .str x t⟩
 | .n, v, _, e => by have e : v = .none := e; subst e; exact ⟨_, .none⟩
 | .v x, v, hd, _ => by simp [dat] at hd
 | .g _ x, v, hd, _ => by simp [dat] at hd
 | .l xs, v, hd, ⟨a, vs, k, e, g, r⟩ => by
   subst e
   obtain ⟨as, ra⟩ := gh hG (ds := xs) (by simpa [dat] using hd) r
   exact ⟨_, .list (hG _ _ g) rfl rfl ra⟩
 | .t xs, v, hd, ⟨a, vs, o, k, e, g, c, q, r⟩ => by
   subst e
   obtain ⟨as, ra⟩ := gh hG (ds := xs) (by simpa [dat] using hd) r
   exact ⟨_, .tuple (hG _ _ g) c q ra⟩
theorem gh {G : Mem} {h : Heap} (hG : In G h) : ∀ {ds : List D} {vs : List Value}, ki ds = true → RpL G ds vs → ∃ as, ReadsAll h vs (gR ds) as
 | [], vs, _, e => by have e : vs = [] := e; subst e; exact ⟨_, .nil⟩
 | d :: ds, vs, hd, ⟨v, r, e, x, y⟩ => by
   subst e
   rw [ki, Bool.and_eq_true] at hd
   obtain ⟨as, ra⟩ := dW hG hd.1 x
   obtain ⟨bs, rb⟩ := gh hG hd.2 y
   exact ⟨_, .cons ra rb⟩
end
noncomputable def eqd (a b : D) : Bool := PyData.eqv (toP a) (toP b)
noncomputable def okd (a : D) : Bool := dat a && SeqAt.shaped (toP a)
noncomputable def pick {α : Type} (xs : List α) (lo hi st : Option Int) : List α :=
 (sliceRange (sliceBounds lo hi st xs.length).1 (sliceBounds lo hi st xs.length).2.1 (sliceBounds lo hi st xs.length).2.2).filterMap (xs[·]?)
theorem RpL.picks {G : Mem} {ds : List D} {vs : List Value} (r : RpL G ds vs) : ∀ is : List Nat, RpL G (is.filterMap (ds[·]?)) (is.filterMap (vs[·]?))
 | [] => rfl
 | i :: is => by
   erw [List.filterMap_cons, List.filterMap_cons]
   cases h : ds[i]? with
   | none =>
     have e : vs[i]? = none := by
      have := List.getElem?_eq_none_iff.mp h
      exact List.getElem?_eq_none (by erw [r.length]; exact this)
     erw [e]
     exact RpL.picks r is
   | some d =>
     obtain ⟨v, hv, rv⟩ := r.get h
     erw [hv]
     exact ⟨v, _, rfl, rv, RpL.picks r is⟩
theorem RpL.pick {G : Mem} {ds : List D} {its : Array Value} (r : RpL G ds its.toList) (lo hi st : Option Int) : RpL G (pick ds lo hi st) (slicePick its lo hi st).toList := by
 have e : its.toList.length = ds.length := r.length
 have q : slicePick its lo hi st = (Mine.pick its.toList lo hi st).toArray := by
  unfold slicePick Mine.pick
  simp
 erw [q]
 show RpL G _ (Mine.pick its.toList lo hi st)
 unfold Mine.pick
 erw [e]
 exact r.picks _
theorem gq {α : Type} (xs : List α) {a : Int} (h : 0 ≤ a) (h2 : a ≤ xs.length) : pick xs (some a) none none = xs.drop a.toNat := by
 have e : sliceBounds (some a) none none xs.length = ((a.toNat : Int), (xs.length : Int), 1) := by
  simp only [sliceBounds, Option.getD_none]
  have h1 : ¬ (a < 0) := by lia
  simp only [h1, if_false, show (1 : Int) > 0 by decide, if_true]
  congr 1
  lia
 unfold pick
 erw [e]
 have := pick_run xs.toArray a.toNat (xs.length - a.toNat)
 simp only [sliceRange_one]
 simp at this
 simp [this]
 exact List.take_of_length_le (by simp)
theorem mo {α : Type} (xs : List α) {a : Int} (h : 0 ≤ a) : pick xs (some a) none none = xs.drop a.toNat := by
 by_cases h2 : a ≤ xs.length
 · exact gq xs h h2
 · have e : sliceBounds (some a) none none xs.length = ((xs.length : Int), (xs.length : Int), 1) := by
    simp only [sliceBounds, Option.getD_none]
    have h1 : ¬ (a < 0) := by lia
    simp only [h1, if_false, show (1 : Int) > 0 by decide, if_true]
    congr 1
    lia
   unfold pick
   erw [e, List.drop_eq_nil_of_le (by lia)]
   simp only [sliceRange_one]
   simp
theorem gA {α : Type} (xs : List α) {b : Int} (h : 0 ≤ b) : pick xs none (some b) none = xs.take b.toNat := by
 have e : sliceBounds none (some b) none xs.length = (((0 : Nat) : Int), ((min b.toNat xs.length : Nat) : Int), 1) := by
  simp only [sliceBounds, Option.getD_none]
  have h1 : ¬ (b < 0) := by lia
  simp only [h1, if_false, show (1 : Int) > 0 by decide, if_true]
  congr 1
  congr 1
  lia
 unfold pick
 erw [e]
 have := pick_run xs.toArray 0 (min b.toNat xs.length)
 simp only [sliceRange_one]
 simp at this
 simp [this]
theorem qQ {α : Type} (xs : List α) : pick xs none none (some (-1)) = xs.reverse := by
 unfold pick
 erw [krv_bounds]
 show (sliceRange ((xs.length : Int) - 1) (-1) (-1)).filterMap (xs[·]?) = _
 erw [krv_sliceRange, krv_range, List.filterMap_reverse]
 congr 1
 have := krv_all xs.toArray
 simpa using this
section
variable {prog : Program} {w : World} {A : Around} {env : Env} {ρ ρ' : List (Str × D)}
theorem iP {a b : D} (ha : okd a = true) (hb : okd b = true) (hu : A.units + 64 < cLine) : Cmp (model prog w) A .Eq a b (.b (eqd a b)) := by
 intro s G Q E x y hG rx ry hQ
 rw [okd, Bool.and_eq_true] at ha hb
 obtain ⟨as, ra⟩ := dW hG ha.1 rx
 obtain ⟨bs, rb⟩ := dW hG hb.1 ry
 exact SeqAt.compareEq_shaped ra rb ha.2 hb.2 hu (hQ _ _ _ (Kp.rf hG) rfl)
theorem eW {a b : D} (ha : okd a = true) (hb : okd b = true) (hu : A.units + 64 < cLine) : Cmp (model prog w) A .NotEq a b (.b (!eqd a b)) := by
 intro s G Q E x y hG rx ry hQ
 rw [okd, Bool.and_eq_true] at ha hb
 obtain ⟨as, ra⟩ := dW hG ha.1 rx
 obtain ⟨bs, rb⟩ := dW hG hb.1 ry
 exact SeqAt.compareNe_shaped ra rb ha.2 hb.2 hu (hQ _ _ _ (Kp.rf hG) rfl)
theorem lW {a b : Int} : Cmp (model prog w) A .NotEq (.i a) (.i b) (.b (a != b)) := by
 rintro s G Q E _ _ hG ⟨t, rfl⟩ ⟨u, rfl⟩ hQ
 exact SeqAt.RcNeAt.int_int a t b u prog w E Q (hQ _ _ _ (Kp.rf hG) rfl)
theorem bE {xs ys : List D} (hsz : xs.length + ys.length ≤ 1000000) : Op2 (model prog w) A .Add (.l xs) (.l ys) (.l (xs ++ ys)) := by
 rintro s G Q E _ _ hG ⟨a, vs, k, rfl, g, r⟩ ⟨a', vs', k', rfl, g', r'⟩ hQ
 have e1 := r.length
 have e2 := r'.length
 simp at e1 e2
 refine P.add_list (hG _ _ g) (hG _ _ g') ?_ (by erw [sizeLine_eq]; lia)
 have K := Kp.push hG (o := { cls := .type "list", data := .seq (vs ++ vs') }) rfl s.toks
 exact hQ _ _ _ K ⟨_, _, _, rfl, a9 _ _ _, by erw [Array.toList_append]; exact RpL.append (r.mono K.le) (r'.mono K.le)⟩
theorem rpl_rep {G : Mem} {ds : List D} {vs : Array Value} (r : RpL G ds vs.toList) : ∀ n : Nat, RpL G (List.replicate n ds).flatten (List.foldl (fun x1 x2 => x1 ++ x2) #[] (List.replicate n vs)).toList := by
 intro n
 have key : ∀ (n : Nat) (acc : Array Value) (as : List D), RpL G as acc.toList → RpL G (as ++ (List.replicate n ds).flatten) (List.foldl (fun x1 x2 => x1 ++ x2) acc (List.replicate n vs)).toList := by
  intro n
  induction n with
  | zero => intro acc as h; simpa using h
  | succ n ih =>
    intro acc as h
    erw [List.replicate_succ, List.replicate_succ, List.foldl_cons, List.flatten_cons, ← List.append_assoc]
    exact ih _ _ (by erw [Array.toList_append]; exact RpL.append h r)
 have := key n #[] [] rfl
 simpa using this
theorem iM {xs : List D} {n : Int} (h0 : 0 ≤ n) (hne : xs ≠ []) (hsz : xs.length * n.toNat ≤ 1000000) : Op2 (model prog w) A .Mult (.l xs) (.i n) (.l (List.replicate n.toNat xs).flatten) := by
 rintro s G Q E _ _ hG ⟨a, vs, k, rfl, g, r⟩ ⟨t, rfl⟩ hQ
 have e1 := r.length
 simp at e1
 have hpos : 0 < xs.length := List.length_pos_iff.mpr hne
 have hn : n.toNat ≤ 1000000 := Nat.le_trans (Nat.le_mul_of_pos_left _ hpos) hsz
 have hem : vs.isEmpty = false := by
  cases q : vs.isEmpty with
  | false => rfl
  | true => have : vs.size = 0 := by simpa using q
            lia
 refine wpAny_binaryOp_repeat_ref (T := "list") (U := "int") (by decide) ⟨_, hG _ _ g, rfl⟩ (fun s' => typeIs_int s' n t) noFill_list_mul F.fills_int_mul F.slot_int_rmul repeat_list F.slot_int_index.lookup
  (call_meets F.slot_int_rmul (typeIs_int s n t) F.entry_int_rmul (F.args_int_rmul_2 _ _) (int___rmul___int_list n t a vs k)
   ⟨hG _ _ g, rfl, ⟨_, hG _ _ g, rfl⟩, call_meets F.slot_list_mul ⟨_, hG _ _ g, rfl⟩ F.entry_list_mul (F.args_list_mul_2 _ _)
    (AutoListH.list___mul___list_int_3 a vs k n t (by simp [Builtin.List.listFitsIndex]; lia) (by erw [e1]; lia) (by erw [e1]; simp [Builtin.List.listTooLong, sizeLine]; lia))
    ⟨hG _ _ g, ?_⟩⟩)
 have K := Kp.push hG (o := { cls := .type "list", data := .seq (List.foldl (fun x1 x2 => x1 ++ x2) #[] (List.replicate (if vs.isEmpty = true then 0 else n.toNat) vs)) }) rfl s.toks
 refine hQ _ _ _ K ⟨_, _, _, rfl, a9 _ _ _, ?_⟩
 erw [if_neg (by erw [hem]; decide)]
 rw [if_neg (by erw [hem]; decide)] at K
 exact rpl_rep (r.mono K.le) n.toNat
noncomputable def Ep (prog : Program) (w : World) (A : Around) (env : Env) (ρ : List (Str × D)) (x : Option Expr) (k : Option Int) : Prop := match x, k with
 | none, none => True
 | some e, some n => Ev (model prog w) A env ρ e (.i n)
 | _, _ => False
theorem qe {x : Option Expr} {k : Option Int} {s : Shared} {G : Mem} {Q E : Value → Shared → Prop} (h : Ep prog w A env ρ x k) (hE : En s.heap G env ρ) (hQ : ∀ v s' G', Kp s G s' G' → IsPart v k → Q v s') : wpAny (model prog w) A (evalPart x env) Q E s := by
 cases x with
 | none => cases k with
   | none => exact wpAny_pure (hQ _ _ _ (Kp.rf hE.sub) .none)
   | some n => exact h.elim
 | some e => cases k with
   | none => exact h.elim
   | some n =>
     refine h s G _ _ hE fun v s₁ G₁ k₁ r => ?_
     obtain ⟨t, rfl⟩ := r
     exact hQ _ _ _ k₁ (.int n t)
theorem c7 {value : Expr} {lower upper step : Option Expr} {p pos : Pos} {xs : List D} {lo hi st : Option Int} (hv : Ev (model prog w) A env ρ value (.l xs)) (hl : Ep prog w A env ρ lower lo) (hu : Ep prog w A env ρ upper hi) (hst : Ep prog w A env ρ step st)
 (h0 : st ≠ some 0) (hsz : xs.length ≤ 1000000)
 (hs : ∃ ops : Addr → Addr → List Value, ∀ l sl, subscripted (.Slice lower upper step p) false (.ref l) (.ref sl) = operate (ops l sl) (getItem (.ref l) (.ref sl))) :
 Ev (model prog w) A env ρ (.Subscript value (.Slice lower upper step p) pos) (.l (pick xs lo hi st)) := by
 intro s G Q E hE hQ
 refine Subscript_ (hv s G _ _ hE fun o s₁ G₁ k₁ r₁ => wpAny_Slice (qe hl (hE.go k₁) fun vl s₂ G₂ k₂ pl => qe hu ((hE.go k₁).go k₂) fun vu s₃ G₃ k₃ pu => qe hst (((hE.go k₁).go k₂).go k₃) fun vk s₄ G₄ k₄ pk => ?_))
 have K := ((k₁.tr k₂).tr k₃).tr k₄
 obtain ⟨a, vs, n, rfl, g, r⟩ := ((r₁.mono k₂.le).mono k₃.le).mono k₄.le
 obtain ⟨ops, hs⟩ := hs
 have e1 := r.length
 simp at e1
 have hl' : s₄.heap.IsList a vs := ⟨_, k₄.sub _ _ g, rfl, _, rfl⟩
 refine kba_turn (value' := PySem.Expr.Name (PySem.Str.ofString "_") ⟨0, 0, 0, 0⟩) (fun ux => rfl) ?_
 refine subscriptTail_ops (Heap.IsList.typeIs (s := { s₄ with heap := s₄.heap.push { cls := .type "slice", data := .fields #[vl, vu, vk] } }) (hl'.push _)) list_getitem_lookup
  (wpAny_getItem_list_slice (hl'.push _) (Heap.IsSliceOf.new ..) pl pu pk h0 ?_ (by erw [sizeLine_eq]; lia)) (hs _ _) (fun ux => rfl)
 have K₁ := iK k₄.sub { cls := .type "slice", data := .fields #[vl, vu, vk] } s₄.toks
 have K₂ := Kp.push K₁.sub (o := { cls := .type "list", data := .seq (slicePick vs lo hi st) }) rfl s₄.toks
 exact hQ _ _ _ ((K.tr K₁).tr K₂) ⟨_, _, _, rfl, a9 _ _ _, (r.mono K₂.le).pick lo hi st⟩
end
set_option tactic.hygienic false
inductive Kd where
 | l (ds : List D)
 | o (o : Obj)
 | p (P : Mem → Obj → Prop) (h : ∀ G G' o, Le G G' → P G o → P G' o)
noncomputable def Kd.ok (k : Kd) (G : Mem) (o : Obj) : Prop := match k with
 | .l ds => ∃ vs n, o = { cls := .type "list", data := .seq vs n } ∧ RpL G ds vs.toList
 | .o o' => o = o'
 | .p P _ => P G o
theorem Kd.ok.mono {k : Kd} {G G' : Mem} {o : Obj} (h : k.ok G o) (le : Le G G') : k.ok G' o := by
 cases k with
 | l ds => obtain ⟨vs, n, e, r⟩ := h; exact ⟨vs, n, e, r.mono le⟩
 | o o' => exact h
 | p P hm => exact hm _ _ _ le h
noncomputable abbrev own (env : Env) : List Addr := env.locals :: env.cells.map (·.2)
noncomputable abbrev far (env : Env) : List Addr := env.globals :: env.builtins :: own env
noncomputable abbrev all (env : Env) (os : List (Addr × Kd)) : List Addr := own env ++ os.map (·.1)
theorem j7 {env : Env} {x : Str} {c : Addr} (h : env.cells.lookup x = some c) : c ∈ own env := by
 refine List.mem_cons_of_mem _ ?_
 have : ∀ (l : List (Str × Addr)), l.lookup x = some c → c ∈ l.map (·.2) := by
  intro l
  induction l with
  | nil => intro h; cases h
  | cons p l ih =>
    intro h
    obtain ⟨y, d⟩ := p
    rw [List.lookup_cons] at h
    cases q : x == y with
    | true => rw [q] at h; cases h; exact .head _
    | false => rw [q] at h; exact .tail _ (ih h)
 exact this _ h
structure Own (h : Heap) (G : Mem) (env : Env) : Prop where
 ns : ∃ m, h.Ns env.locals m
 gn : G env.locals = none
 gl : env.locals ≠ env.globals
 bu : env.locals ≠ env.builtins
 fn : env.scope.kind = .function
 cel : ∀ x c, (x, c) ∈ env.cells → (∃ v, h.IsCell c v) ∧ G c = none
 ap : ∀ x y c, (x, c) ∈ env.cells → (y, c) ∈ env.cells → x = y
theorem aJ {x : Str} {c : Addr} : ∀ {l : List (Str × Addr)}, l.lookup x = some c → (x, c) ∈ l
 | [], h => by cases h
 | (y, d) :: l, h => by
   rw [List.lookup_cons] at h
   cases q : x == y with
   | true => rw [q] at h; cases h; erw [eq_of_beq q]; exact .head _
   | false => rw [q] at h; exact .tail _ (aJ h)
structure Fm (wr : List Addr) (s₀ : Shared) (G₀ : Mem) (env : Env) (ρ : List (Str × D)) (os : List (Addr × Kd)) (s : Shared) (G : Mem) : Prop where
 K : KpB wr s₀ G₀ s G
 E : En s.heap G env ρ
 O : Own s.heap G env
 S : ∀ p ∈ os, G p.1 = none ∧ p.1 ∉ far env ∧ ∃ o, s.heap.get? p.1 = some o ∧ p.2.ok G o
 N : (os.map (·.1)).Nodup
 F : ∀ b ∈ all env os, b ∈ wr ∨ s₀.heap.get? b = none
 W : ∀ b ∈ wr, b ∈ all env os
section
variable {wr : List Addr} {s₀ s s' : Shared} {G₀ G G' : Mem} {env : Env} {ρ ρ' : List (Str × D)} {os os' : List (Addr × Kd)}
theorem Fm.out (f : Fm wr s₀ G₀ env ρ os s G) {b : Addr} (h : b ∈ all env os) : G b = none ∧ ∃ o, s.heap.get? b = some o := by
 rcases List.mem_append.mp h with h | h
 · rcases List.mem_cons.mp h with rfl | h
   · obtain ⟨m, o, es, ep, e, _⟩ := f.O.ns
     exact ⟨f.O.gn, o, e⟩
   · obtain ⟨p, hp, rfl⟩ := List.mem_map.mp h
     obtain ⟨⟨v, o, e, _⟩, g⟩ := f.O.cel p.1 p.2 hp
     exact ⟨g, o, e⟩
 · obtain ⟨p, hp, rfl⟩ := List.mem_map.mp h
   obtain ⟨g, _, o, e, _⟩ := f.S p hp
   exact ⟨g, o, e⟩
theorem Own.keeps {h h' : Heap} {G G' : Mem} (x : Own h G env) (k : ∀ b o, h.get? b = some o → h'.get? b = some o) (hg : ∀ b ∈ own env, G' b = none) : Own h' G' env :=
 ⟨let ⟨m, n⟩ := x.ns; ⟨m, n.keeps k⟩, hg _ (.head _), x.gl, x.bu, x.fn, fun y c hy => ⟨let ⟨v, o, e, q⟩ := (x.cel y c hy).1; ⟨v, o, k _ _ e, q⟩, hg c (.tail _ (List.mem_map_of_mem (f := (·.2)) hy))⟩, x.ap⟩
theorem Fm.go (f : Fm wr s₀ G₀ env ρ os s G) (k : Kp s G s' G') : Fm wr s₀ G₀ env ρ os s' G' := by
 have out : ∀ b ∈ all env os, G' b = none := fun b hb => by
  obtain ⟨g, o, e⟩ := f.out hb
  exact bw k e g
 refine ⟨f.K.tr (KpB.of k) fun b hb => out b (f.W b hb), f.E.go k, f.O.keeps k.hp fun b hb => out b (List.mem_append_left _ hb), fun p hp => ?_, f.N, f.F, f.W⟩
 obtain ⟨g, n, o, e, q⟩ := f.S p hp
 exact ⟨out _ (List.mem_append_right _ (List.mem_map_of_mem hp)), n, o, k.hp _ _ e, q.mono k.le⟩
theorem Fm.rf (f : Fm wr s₀ G₀ env ρ os s G) : Fm (all env os) s G env ρ os s G :=
 ⟨⟨⟨s.heap, s.toks, rfl, fun ux ux ux e => e⟩, fun ux ux e => e, f.E.sub, fun ux ux e => .inl e⟩, f.E, f.O, f.S, f.N, fun b hb => .inl hb, fun b hb => hb⟩
theorem Fm.turned (f : Fm wr s₀ G₀ env ρ os s G) (k : KpB (all env os) s G s' G') (hE : En s'.heap G' env ρ') (hO : Own s'.heap G' env)
 (hS : ∀ p ∈ os', G' p.1 = none ∧ p.1 ∉ far env ∧ ∃ o, s'.heap.get? p.1 = some o ∧ p.2.ok G' o) (hN : (os'.map (·.1)).Nodup) (hF : ∀ p ∈ os', p.1 ∈ os.map (·.1) ∨ s.heap.get? p.1 = none) (hW : ∀ b ∈ wr, b ∈ all env os') : Fm wr s₀ G₀ env ρ' os' s' G' := by
 have out' : ∀ b ∈ all env os', G' b = none := fun b hb => by
  rcases List.mem_append.mp hb with h | h
  · rcases List.mem_cons.mp h with rfl | h
    · exact hO.gn
    · obtain ⟨p, hp, rfl⟩ := List.mem_map.mp h
      exact (hO.cel p.1 p.2 hp).2
  · obtain ⟨p, hp, rfl⟩ := List.mem_map.mp h
    exact (hS p hp).1
 refine ⟨⟨?_, fun b o e => k.le b o (f.K.le b o e), k.sub, fun b o e => ?_⟩, hE, hO, hS, hN, fun b hb => ?_, hW⟩
 · obtain ⟨h, t, e, kk⟩ := f.K.k
   obtain ⟨h', t', e', kk'⟩ := k.k
   subst e e'
   refine ⟨h', t', rfl, fun b o n z => kk' b o (fun m => ?_) (kk b o n z)⟩
   rcases f.F b m with q | q
   · exact n q
   · rw [q] at z; cases z
 · rcases k.new b o e with q | q
   · exact f.K.new b o q
   · right
     cases z : s₀.heap.get? b with
     | none => rfl
     | some o' =>
       by_cases hb : b ∈ wr
       · rw [out' b (hW b hb)] at e; cases e
       · rw [f.K.hp b o' hb z] at q; cases q
 · have fresh : ∀ {b}, s.heap.get? b = none → b ∈ wr ∨ s₀.heap.get? b = none := fun {b} q => by
    by_cases hb : b ∈ wr
    · exact .inl hb
    · right
      cases z : s₀.heap.get? b with
      | none => rfl
      | some o' => rw [f.K.hp b o' hb z] at q; cases q
   rcases List.mem_append.mp hb with h | h
   · exact f.F b (List.mem_append_left _ h)
   · obtain ⟨p, hp, rfl⟩ := List.mem_map.mp h
     rcases hF p hp with q | q
     · exact f.F _ (List.mem_append_right _ q)
     · exact fresh q
theorem Fm.trans (f : Fm wr s₀ G₀ env ρ os s G) (g : Fm (all env os) s G env ρ' os' s' G') : Fm wr s₀ G₀ env ρ' os' s' G' :=
 f.turned g.K g.E g.O g.S g.N (fun p hp => by
  rcases g.F p.1 (List.mem_append_right _ (List.mem_map_of_mem hp)) with q | q
  · rcases List.mem_append.mp q with q | q
    · exact absurd (.tail _ (.tail _ q)) (g.S p hp).2.1
    · exact .inl q
  · exact .inr q) (fun b hb => g.W b (f.W b hb))
theorem Fm.say (f : Fm wr s₀ G₀ env ρ os s G) (h : ∀ p ∈ ρ', p ∈ ρ) : Fm wr s₀ G₀ env ρ' os s G :=
 ⟨f.K, ⟨f.E.fn, f.E.gl, f.E.bu, f.E.sub, fun p hp => f.E.at' p (h p hp)⟩, f.O, f.S, f.N, f.F, f.W⟩
theorem Fm.drop {p : Addr × Kd} (f : Fm wr s₀ G₀ env ρ (p :: os) s G) (h : p.1 ∉ wr) : Fm wr s₀ G₀ env ρ os s G := by
 refine ⟨f.K, f.E, f.O, fun q hq => f.S q (.tail _ hq), (List.nodup_cons.mp f.N).2, fun b hb => f.F b ?_, fun b hb => ?_⟩
 · rcases List.mem_append.mp hb with q | q
   · exact List.mem_append_left _ q
   · exact List.mem_append_right _ (.tail _ q)
 · rcases List.mem_append.mp (f.W b hb) with q | q
   · exact List.mem_append_left _ q
   · rcases List.mem_cons.mp q with q | q
     · exact absurd (by have q : b = p.1 := q; rw [← q]; exact hb) h
     · exact List.mem_append_right _ q
noncomputable def Bears (a : Addr) (ds : List D) (ρ ρ' : List (Str × D)) : Prop := ∀ p ∈ ρ', p ∈ ρ ∨ (p.2 = .l ds ∧ (p.1, D.v (.ref a)) ∈ ρ)
theorem Fm.freeze {a : Addr} {ds : List D} (f : Fm wr s₀ G₀ env ρ ((a, .l ds) :: os) s G) (h : a ∉ wr) (hb : Bears a ds ρ ρ') : ∃ G', Fm wr s₀ G₀ env ρ' os s G' ∧ Le G G' ∧ Rp G' (.l ds) (.ref a) := by
 obtain ⟨g, na, o, e, vs, n, rfl, r⟩ := f.S _ (.head _)
 have f' := f.drop h
 have le : Le G (put G a { cls := .type "list", data := .seq vs n }) := ev g
 have np : ∀ b, b ≠ a → put G a { cls := .type "list", data := .seq vs n } b = G b := fun b hb => by unfold put; erw [if_neg hb]
 have na2 : ∀ p ∈ os, p.1 ≠ a := fun p hp q => (List.nodup_cons.mp f.N).1 (by
  have := List.mem_map_of_mem (f := fun (x : Addr × Kd) => x.1) hp
  rw [q] at this; exact this)
 have rp : Rp (put G a { cls := .type "list", data := .seq vs n }) (.l ds) (.ref a) := ⟨a, vs, n, rfl, a9 _ _ _, r.mono le⟩
 refine ⟨put G a { cls := .type "list", data := .seq vs n }, ⟨⟨f.K.k, fun b o q => le b o (f.K.le b o q), ?_, ?_⟩, ⟨f.E.fn, f.E.gl, f.E.bu, ?_, fun p hp => ?_⟩, ⟨f.O.ns, ?_, f.O.gl, f.O.bu, f.O.fn, fun x c hx => ⟨(f.O.cel x c hx).1, ?_⟩, f.O.ap⟩, fun p hp => ?_, f'.N, f'.F, f'.W⟩, le, rp⟩
 · intro b o q
   unfold put at q
   by_cases z : b = a
   · rw [if_pos z] at q; cases q; erw [z]; exact e
   · rw [if_neg z] at q; exact f.K.sub b o q
 · intro b o q
   unfold put at q
   by_cases z : b = a
   · erw [z]
     rcases f.F a (List.mem_append_right _ (.head _)) with y | y
     · exact absurd y h
     · exact .inr y
   · rw [if_neg z] at q; exact f.K.new b o q
 · intro b o q
   unfold put at q
   by_cases z : b = a
   · rw [if_pos z] at q; cases q; erw [z]; exact e
   · rw [if_neg z] at q; exact f.K.sub b o q
 · rcases hb p hp with q | ⟨q, q'⟩
   · obtain ⟨v, l, x⟩ := f.E.at' p q
     exact ⟨v, l, x.mono le⟩
   · obtain ⟨v, l, x⟩ := f.E.at' _ q'
     have x : v = .ref a := x
     subst x
     exact ⟨_, l, by erw [q]; exact rp⟩
 · erw [np _ (fun q => na (by rw [← q]; exact .tail _ (.tail _ (.head _))))]; exact f.O.gn
 · erw [np _ (fun q => na (by rw [← q]; exact .tail _ (.tail _ (.tail _ (List.mem_map_of_mem (f := fun (x : Str × Addr) => x.2) hx)))))]; exact (f.O.cel x c hx).2
 · obtain ⟨g', n', o', e', k'⟩ := f.S p (.tail _ hp)
   exact ⟨by erw [np _ (na2 p hp)]; exact g', n', o', e', k'.mono le⟩
theorem Fm.take (f : Fm wr s₀ G₀ env ρ os s G) {a : Addr} {k : Kd} {o : Obj} (fr : ∀ b ∈ all env os, b ≠ a) (hg : a ≠ env.globals) (hb : a ≠ env.builtins) (hw : s₀.heap.get? a = none) (g : G a = none) (e : s.heap.get? a = some o) (hk : k.ok G o) : Fm wr s₀ G₀ env ρ ((a, k) :: os) s G := by
 refine ⟨f.K, f.E, f.O, fun p hp => ?_, ?_, fun b hb => ?_, fun b hb => ?_⟩
 · rcases List.mem_cons.mp hp with rfl | hp
   · exact ⟨g, fun q => by
      rcases List.mem_cons.mp q with q | q
      · exact hg q
      · rcases List.mem_cons.mp q with q | q
        · exact hb q
        · exact fr _ (List.mem_append_left _ q) rfl, o, e, hk⟩
   · exact f.S p hp
 · exact List.nodup_cons.mpr ⟨fun q => fr _ (List.mem_append_right _ q) rfl, f.N⟩
 · rcases List.mem_append.mp hb with q | q
   · exact f.F b (List.mem_append_left _ q)
   · rcases List.mem_cons.mp q with rfl | q
     · exact .inr hw
     · exact f.F b (List.mem_append_right _ q)
 · rcases List.mem_append.mp (f.W b hb) with q | q
   · exact List.mem_append_left _ q
   · exact List.mem_append_right _ (.tail _ q)
theorem KpB.kp0 (k : KpB [] s G s' G') : Kp s G s' G' := by
 obtain ⟨h, t, e, kk⟩ := k.k
 exact ⟨⟨h, t, e, fun b o z => kk b o (by simp) z⟩, k.le, k.sub, k.new⟩
theorem Fm.kp (f : Fm [] s₀ G₀ env ρ os s G) : Kp s₀ G₀ s G := f.K.kp0
inductive Knd (env : Env) (x : Str) : Prop
 | l (h : env.kindOf x = some .local)
 | c (c : Addr) (h : env.kindOf x = some .cell) (hc : env.cells.lookup x = some c)
theorem ar {env : Env} {x : Str} (h : (env.kindOf x == some .local || env.kindOf x == some .cell && (env.cells.lookup x).isSome) = true := by kernel_rfl) : Knd env x := by
 rcases Bool.or_eq_true_iff.mp h with h | h
 · exact .l (eq_of_beq h)
 · have h := Bool.and_eq_true_iff.mp h
   have ⟨c, e⟩ := Option.isSome_iff_exists.mp h.2
   exact .c c (eq_of_beq h.1) e
theorem cell_unique {h : Heap} {c : Addr} {v v' : Option Value} (x : h.IsCell c v) (y : h.IsCell c v') : v = v' := by
 obtain ⟨o, e, d⟩ := x
 obtain ⟨o', e', d'⟩ := y
 rw [e] at e'; cases e'
 rw [d] at d'; cases d'; rfl
set_option tactic.hygienic true in
theorem Fm.set {M : Model} {A : Around} {x : Str} {v : Value} {d : D} {Q : Unit → Shared → Prop} {E : Value → Shared → Prop} (f : Fm wr s₀ G₀ env ρ os s G) (hk : Knd env x) (hr : Rp G d v) (hs : eg x d ρ ρ')
 (hQ : ∀ s', Fm wr s₀ G₀ env ρ' os s' G → Q () s') : wpAny M A (storeName env x v) Q E s := by
 obtain ⟨m, hn⟩ := f.O.ns
 have hp : (env.scope.kind == .class || (env.scope.kind == .module && env.locals != env.globals)) = false := by erw [f.O.fn]; rfl
 have key : ∀ (a : Addr) (h' : Heap) (t : Nat), a ∈ own env → Heap.SameBut a s.heap h' → (∃ m, h'.Ns env.locals m) → (∀ y c, (y, c) ∈ env.cells → ∃ v, h'.IsCell c v) →
  (∀ p ∈ ρ', ∃ v, Ld h' env p.1 v ∧ Rp G p.2 v) → Fm wr s₀ G₀ env ρ' os { s with heap := h', toks := t } G := by
  intro a h' t ha hsb hns hcs hat
  have out := f.out (List.mem_append_left _ ha)
  have K : KpB [a] s G { s with heap := h', toks := t } G := KpB.same f.E.sub hsb out.1
  refine f.turned (K.mono fun b hb => by erw [List.mem_singleton.mp hb]; exact List.mem_append_left _ ha) ⟨f.E.fn, ?_, ?_, K.sub, hat⟩ ⟨hns, f.O.gn, f.O.gl, f.O.bu, f.O.fn, fun y c hy => ⟨hcs y c hy, (f.O.cel y c hy).2⟩, f.O.ap⟩ (fun p hp => ?_) f.N (fun p hp => .inl (List.mem_map_of_mem hp)) f.W
  · obtain ⟨mg, ng⟩ := f.E.gl
    refine ⟨mg, ng.sameBut hsb fun q => ?_⟩
    rcases List.mem_cons.mp ha with z | z
    · exact f.O.gl (z ▸ q).symm
    · obtain ⟨pc, hpc, rfl⟩ := List.mem_map.mp z
      obtain ⟨⟨v, hv⟩, _⟩ := f.O.cel pc.1 pc.2 hpc
      exact aE ng hv q
  · obtain ⟨mg, ng⟩ := f.E.bu
    refine ⟨mg, ng.sameBut hsb fun q => ?_⟩
    rcases List.mem_cons.mp ha with z | z
    · exact f.O.bu (z ▸ q).symm
    · obtain ⟨pc, hpc, rfl⟩ := List.mem_map.mp z
      obtain ⟨⟨v, hv⟩, _⟩ := f.O.cel pc.1 pc.2 hpc
      exact aE ng hv q
  · obtain ⟨g, no, o, e, q⟩ := f.S p hp
    exact ⟨g, no, o, hsb.extBut _ _ (fun z => no (.tail _ (.tail _ (z ▸ ha)))) e, q⟩
 have ngl : ∀ {a : Addr}, a ∈ own env → ∀ {b : Addr} {m : Str → Option Value}, s.heap.Ns b m → b ≠ env.locals → b ≠ a := by
  intro a ha b m hb hbl q
  rcases List.mem_cons.mp ha with z | z
  · exact hbl (q.trans z)
  · obtain ⟨pc, hpc, rfl⟩ := List.mem_map.mp z
    obtain ⟨⟨v, hv⟩, _⟩ := f.O.cel pc.1 pc.2 hpc
    exact aE hb hv q
 cases hk with
 | l hk =>
   refine wpAny_storeName_local hk hn (fun h' hn' hsb => hQ _ (key env.locals h' _ (.head _) hsb ⟨_, hn'⟩ (fun y c hy => ?_) fun p hp' => ?_)) hp
   · obtain ⟨⟨v, o, e, q⟩, _⟩ := f.O.cel y c hy
     exact ⟨v, o, hsb.extBut _ _ (Ne.symm (aE hn ⟨o, e, q⟩)) e, q⟩
   · rcases hs p hp' with rfl | ⟨hp'', hne⟩
     · exact ⟨v, .loc hk hn' (if_pos rfl), hr⟩
     · obtain ⟨u, hl, hu⟩ := f.E.at' p hp''
       refine ⟨u, ?_, hu⟩
       cases hl with
       | loc a b c =>
         have := gG hn b
         subst this
         exact .loc a hn' (by erw [if_neg hne]; exact c)
       | cel a b c =>
         obtain ⟨o, e, q⟩ := c
         exact .cel a b ⟨o, hsb.extBut _ _ (Ne.symm (aE hn ⟨o, e, q⟩)) e, q⟩
       | fre a b c n =>
         obtain ⟨o, e, q⟩ := c
         exact .fre a b ⟨o, hsb.extBut _ _ (Ne.symm (aE hn ⟨o, e, q⟩)) e, q⟩ n
       | glo a b c => exact .glo a (b.sameBut hsb (Ne.symm f.O.gl)) c
       | bui a b c d e => exact .bui a (b.sameBut hsb (Ne.symm f.O.gl)) c (d.sameBut hsb (Ne.symm f.O.bu)) e
       | glN a b c => exact .glN a (b.sameBut hsb (Ne.symm f.O.gl)) c
       | buN a b c d e => exact .buN a (b.sameBut hsb (Ne.symm f.O.gl)) c (d.sameBut hsb (Ne.symm f.O.bu)) e
 | c c hk hc =>
   have hm := aJ hc
   have ha : c ∈ own env := j7 hc
   obtain ⟨⟨v₀, hv₀⟩, _⟩ := f.O.cel x c hm
   refine wpAny_storeName_cell f.O.fn hk hc hv₀ fun h' hv hsb => hQ _ (key c h' s.toks ha hsb ⟨m, hn.sameBut hsb (aE hn hv₀)⟩ (fun y c' hy => ?_) fun p hp' => ?_)
   · by_cases q : c' = c
     · erw [q]; exact ⟨_, hv⟩
     · obtain ⟨⟨v, o, e, z⟩, _⟩ := f.O.cel y c' hy
       exact ⟨v, o, hsb.extBut _ _ q e, z⟩
   · rcases hs p hp' with rfl | ⟨hp'', hne⟩
     · exact ⟨v, .cel hk hc hv, hr⟩
     · obtain ⟨u, hl, hu⟩ := f.E.at' p hp''
       refine ⟨u, ?_, hu⟩
       cases hl with
       | loc a b r => exact .loc a (b.sameBut hsb (aE b hv₀)) r
       | cel a b r =>
         rename_i c'
         obtain ⟨o, e, q⟩ := r
         refine .cel a b ⟨o, hsb.extBut _ _ (fun z => ?_) e, q⟩
         exact hne (f.O.ap p.1 x c (by have := aJ b; rw [z] at this; exact this) hm)
       | fre a b r n =>
         rename_i c'
         obtain ⟨o, e, q⟩ := r
         refine .fre a b ⟨o, hsb.extBut _ _ (fun z => ?_) e, q⟩ n
         exact hne (f.O.ap p.1 x c (by have := aJ b; rw [z] at this; exact this) hm)
       | glo a b r => exact .glo a (b.sameBut hsb (aE b hv₀)) r
       | bui a b r d e => exact .bui a (b.sameBut hsb (aE b hv₀)) r (d.sameBut hsb (aE d hv₀)) e
       | glN a b r => exact .glN a (b.sameBut hsb (aE b hv₀)) r
       | buN a b r d e => exact .buN a (b.sameBut hsb (aE b hv₀)) r (d.sameBut hsb (aE d hv₀)) e
theorem Fm.take' (f : Fm wr s₀ G₀ env ρ os s G) {s₁ : Shared} {G₁ : Mem} (k : Kp s G s₁ G₁) {a : Addr} {kd : Kd} {o : Obj} (fr : s.heap.get? a = none) (g : G₁ a = none) (e : s₁.heap.get? a = some o) (hk : kd.ok G₁ o) : Fm wr s₀ G₀ env ρ ((a, kd) :: os) s₁ G₁ := by
 refine (f.go k).take (fun b hb q => ?_) (fun q => ?_) (fun q => ?_) ?_ g e hk
 · obtain ⟨_, o', e'⟩ := f.out hb
   rw [q, fr] at e'; cases e'
 · obtain ⟨m, o', _, _, e', _⟩ := f.E.gl
   rw [← q, fr] at e'; cases e'
 · obtain ⟨m, o', _, _, e', _⟩ := f.E.bu
   rw [← q, fr] at e'; cases e'
 · cases z : s₀.heap.get? a with
   | none => rfl
   | some o' =>
     by_cases hb : a ∈ wr
     · obtain ⟨_, o', e'⟩ := f.out (f.W a hb)
       rw [fr] at e'; cases e'
     · rw [f.K.hp a o' hb z] at fr; cases fr
theorem Fm.mut {a : Addr} {k k' : Kd} {os₁ os₂ : List (Addr × Kd)} {h' : Heap} {t : Nat} {o' : Obj} (f : Fm wr s₀ G₀ env ρ (os₁ ++ (a, k) :: os₂) s G) (hs : Heap.SameBut a s.heap h') (e : h'.get? a = some o') (hk : k'.ok G o') :
 Fm wr s₀ G₀ env ρ (os₁ ++ (a, k') :: os₂) { s with heap := h', toks := t } G := by
 obtain ⟨g, na, _⟩ := f.S (a, k) (List.mem_append_right _ (.head _))
 have hmap : (os₁ ++ (a, k') :: os₂).map (·.1) = (os₁ ++ (a, k) :: os₂).map (·.1) := by simp
 have nl : env.locals ≠ a := fun q => na (q ▸ .tail _ (.tail _ (.head _)))
 have ng : env.globals ≠ a := fun q => na (q ▸ .head _)
 have nb : env.builtins ≠ a := fun q => na (q ▸ .tail _ (.head _))
 have nc : ∀ {x c}, (x, c) ∈ env.cells → c ≠ a := fun {x c} hx q => na (q ▸ .tail _ (.tail _ (.tail _ (List.mem_map_of_mem (f := fun (x : Str × Addr) => x.2) hx))))
 have K : KpB [a] s G { s with heap := h', toks := t } G := KpB.same f.E.sub hs g
 refine f.turned (K.mono fun b hb => by erw [List.mem_singleton.mp hb]; exact List.mem_append_right _ (List.mem_map_of_mem (f := fun (x : Addr × Kd) => x.1) (List.mem_append_right _ (.head _)))) ⟨f.E.fn, ?_, ?_, K.sub, fun p hp => ?_⟩ ⟨?_, f.O.gn, f.O.gl, f.O.bu, f.O.fn, fun y c hy => ⟨?_, (f.O.cel y c hy).2⟩, f.O.ap⟩ (fun p hp => ?_) (by erw [hmap]; exact f.N) (fun p hp => .inl (by rw [← hmap]; exact List.mem_map_of_mem hp)) (fun b hb => by erw [all, hmap]; exact f.W b hb)
 · obtain ⟨m, n⟩ := f.E.gl; exact ⟨m, n.sameBut hs ng⟩
 · obtain ⟨m, n⟩ := f.E.bu; exact ⟨m, n.sameBut hs nb⟩
 · obtain ⟨u, hl, hu⟩ := f.E.at' p hp
   refine ⟨u, ?_, hu⟩
   cases hl with
   | loc x b c => exact .loc x (b.sameBut hs nl) c
   | cel x b c => obtain ⟨o, e, q⟩ := c; exact .cel x b ⟨o, hs.extBut _ _ (nc (aJ b)) e, q⟩
   | fre x b c n => obtain ⟨o, e, q⟩ := c; exact .fre x b ⟨o, hs.extBut _ _ (nc (aJ b)) e, q⟩ n
   | glo x b c => exact .glo x (b.sameBut hs ng) c
   | bui x b c d e => exact .bui x (b.sameBut hs ng) c (d.sameBut hs nb) e
   | glN x b c => exact .glN x (b.sameBut hs ng) c
   | buN x b c d e => exact .buN x (b.sameBut hs ng) c (d.sameBut hs nb) e
 · obtain ⟨m, n⟩ := f.O.ns; exact ⟨m, n.sameBut hs nl⟩
 · obtain ⟨⟨v, o, e, q⟩, _⟩ := f.O.cel y c hy
   exact ⟨v, o, hs.extBut _ _ (nc hy) e, q⟩
 · have old : p ∈ os₁ ++ (a, k) :: os₂ → p.1 ≠ a → G p.1 = none ∧ p.1 ∉ far env ∧ ∃ o, h'.get? p.1 = some o ∧ p.2.ok G o := fun hm hne => by
    obtain ⟨g, n, o, e, q⟩ := f.S p hm
    exact ⟨g, n, o, hs.extBut _ _ hne e, q⟩
   have nd := f.N
   rw [List.map_append, List.map_cons, List.nodup_append] at nd
   rcases List.mem_append.mp hp with q | q
   · refine old (List.mem_append_left _ q) fun z => ?_
     exact nd.2.2 p.1 (List.mem_map_of_mem (f := fun (x : Addr × Kd) => x.1) q) a (.head _) z
   · rcases List.mem_cons.mp q with rfl | q
     · exact ⟨g, na, o', e, hk⟩
     · refine old (List.mem_append_right _ (.tail _ q)) fun z => ?_
       exact (List.nodup_cons.mp nd.2.1).1 (by have := List.mem_map_of_mem (f := fun (x : Addr × Kd) => x.1) q; rw [z] at this; exact this)
theorem Fm.mut0 {a : Addr} {k k' : Kd} {os₂ : List (Addr × Kd)} {h' : Heap} {t : Nat} {o' : Obj} (f : Fm wr s₀ G₀ env ρ ((a, k) :: os₂) s G) (hs : Heap.SameBut a s.heap h') (e : h'.get? a = some o') (hk : k'.ok G o') :
 Fm wr s₀ G₀ env ρ ((a, k') :: os₂) { s with heap := h', toks := t } G := Fm.mut (os₁ := []) f hs e hk
theorem Fm.notin (f : Fm wr s₀ G₀ env ρ os s G) {a : Addr} (fr : s.heap.get? a = none) : a ∉ wr := fun hb => by
 obtain ⟨_, o', e'⟩ := f.out (f.W a hb)
 rw [fr] at e'; cases e'
end
set_option tactic.hygienic false
noncomputable abbrev dC (M : Model) (A : Around) (env : Env) (rest : List Stmt) (Q : Flow → Shared → Prop) (E : Value → Shared → Prop) : Flow → Shared → Prop := fun fl s => match fl with | .next => wpAny M A (execs rest env) Q E s | fl => Q fl s
noncomputable abbrev pK (Q : Value → Shared → Prop) : Flow → Shared → Prop := fun fl s => Q (match fl with | .ret v => v | _ => .none) s
noncomputable abbrev okR (R : Result → Shared → Prop) : Value → Shared → Prop := fun v s => R (.ok (.ret v)) s
noncomputable abbrev erR (R : Result → Shared → Prop) : Value → Shared → Prop := fun e s => R (.error e) s
noncomputable abbrev mR (J IB : List (Str × D) → List (Addr × Kd) → Prop) (IR : D → List (Str × D) → List (Addr × Kd) → Prop) (wr : List Addr) (s₀ : Shared) (G₀ : Mem) (env : Env) : Flow → Shared → Prop := fun fl s => match fl with
 | .next | .cont => ∃ ρ os G, J ρ os ∧ Fm wr s₀ G₀ env ρ os s G
 | .brk => ∃ ρ os G, IB ρ os ∧ Fm wr s₀ G₀ env ρ os s G
 | .ret v => ∃ ρ os G d, IR d ρ os ∧ Rp G d v ∧ Fm wr s₀ G₀ env ρ os s G
noncomputable def gS (M : Model) (A : Around) (sts : List (Value → Sem Unit)) (ds : List D) (env : Env) (ρ ρ' : List (Str × D)) : Prop :=
 ∀ (wr : List Addr) (s₀ : Shared) (G₀ : Mem) (os : List (Addr × Kd)) (s : Shared) (G : Mem) (vs : List Value) (Q : Unit → Shared → Prop) (E : Value → Shared → Prop), Fm wr s₀ G₀ env ρ os s G → RpL G ds vs →
   (∀ s', Fm wr s₀ G₀ env ρ' os s' G → Q () s') → wpAny M A (assignInOrder sts vs) Q E s
section
variable {prog : Program} {w : World} {A : Around} {wr : List Addr} {s₀ s s' : Shared} {G₀ G G' : Mem} {env : Env} {ρ ρ' ρ₁ : List (Str × D)} {os os' : List (Addr × Kd)} {rest : List Stmt} {Q : Flow → Shared → Prop} {E : Value → Shared → Prop}
theorem bq : gS (model prog w) A [] [] env ρ ρ := fun wr s₀ G₀ os s G vs Q E f r hQ => assignInOrder_nil (hQ _ f)
theorem bd {x : Str} {pos : Pos} {d : D} {sts : List (Value → Sem Unit)} {ds : List D} (hk : Knd env x) (hs : eg x d ρ ρ₁) (h : gS (model prog w) A sts ds env ρ₁ ρ') : gS (model prog w) A (assign (.Name x pos) env :: sts) (d :: ds) env ρ ρ' := by
 rintro wr s₀ G₀ os s G vs Q E f ⟨v, r, rfl, rv, rr⟩ hQ
 exact assignInOrder_cons (wpAny_assign_Name (f.set hk rv hs fun s₁ f₁ => h wr s₀ G₀ os s₁ G r Q E f₁ rr hQ))
theorem aI {x : Str} {d : D} {sts : List (Value → Sem Unit)} {ds : List D} (hk : Knd env x) (hs : eg x d ρ ρ₁) (h : gS (model prog w) A sts ds env ρ₁ ρ') : gS (model prog w) A (bindName env x :: sts) (d :: ds) env ρ ρ' := by
 rintro wr s₀ G₀ os s G vs Q E f ⟨v, r, rfl, rv, rr⟩ hQ
 exact assignInOrder_cons (wpAny_bindName (f.set hk rv hs fun s₁ f₁ => h wr s₀ G₀ os s₁ G r Q E f₁ rr hQ))
theorem ao {x : Str} {p' pos : Pos} {value : Expr} {d : D} (f : Fm wr s₀ G₀ env ρ os s G) (hv : Ev (model prog w) A env ρ value d) (hk : Knd env x) (hs : eg x d ρ ρ')
 (h : ∀ s' G', Fm wr s₀ G₀ env ρ' os s' G' → wpAny (model prog w) A (execs rest env) Q E s')
 (hsw : swapsWith value (some (.Name x p')) pos.line env = pure false := by rfl) : wpAny (model prog w) A (execs (.Assign [.Name x p'] value pos :: rest) env) Q E s :=
 wpAny_execs_cons (wpAny_Assign_Name (hv s G _ _ f.E fun v s₁ G₁ k₁ r => (f.go k₁).set hk r hs fun s₂ f₂ => h s₂ G₁ f₂) hsw)
noncomputable def AsgQ (M : Model) (A : Around) (wr : List Addr) (s₀ : Shared) (G₀ : Mem) (env : Env) (x : Str) (rest : List Stmt) (Q : Flow → Shared → Prop) (E : Value → Shared → Prop) : Value → Shared → Prop := fun v s₁ => ∃ G₁ ρ₁ os₁ d, Fm wr s₀ G₀ env ρ₁ os₁ s₁ G₁ ∧ Rp G₁ d v ∧ ∃ ρ', eg x d ρ₁ ρ' ∧ ∀ s' , Fm wr s₀ G₀ env ρ' os₁ s' G₁ → wpAny M A (execs rest env) Q E s'
theorem cL {M : Model} {x : Str} {v : Value} {d : D} (f : Fm wr s₀ G₀ env ρ os s G) (r : Rp G d v) (hs : eg x d ρ ρ') (k : ∀ s', Fm wr s₀ G₀ env ρ' os s' G → wpAny M A (execs rest env) Q E s') : AsgQ M A wr s₀ G₀ env x rest Q E v s := ⟨_, _, _, _, f, r, _, hs, k⟩
theorem aS {α : Type} {M : Model} {c : Sem α} {Q : α → Shared → Prop} (h : ∀ Z : α → Shared → Prop, (∀ v s, Q v s → Z v s) → wpAny M A c Z E s) : wpAny M A c Q E s := h Q fun ux uy z => z
theorem cp {α : Type} {M : Model} {c : Sem α} {Q : α → Shared → Prop} (h : ∀ Z : Value → Shared → Prop, wpAny M A c Q Z s) : wpAny M A c Q E s := h E
theorem aP {x : Str} {p' pos : Pos} {value : Expr} (hk : Knd env x)
 (h : wpAny (model prog w) A (eval value env) (AsgQ (model prog w) A wr s₀ G₀ env x rest Q E) E s)
 (hsw : swapsWith value (some (.Name x p')) pos.line env = pure false := by rfl) : wpAny (model prog w) A (execs (.Assign [.Name x p'] value pos :: rest) env) Q E s :=
 wpAny_execs_cons (wpAny_Assign_Name (wpAny_mono h (fun v s₁ h₁ => by
  obtain ⟨G₁, ρ₁, os₁, d, f, r, ρ', hs, k⟩ := h₁
  exact f.set hk r hs fun s₂ f₂ => k s₂ f₂) fun ux ux e => e) hsw)
theorem go_tup {elts : List Expr} {k : Nat} {tp pos : Pos} {value : Expr} {ds : List D} (hh : A.handled = none) (f : Fm wr s₀ G₀ env ρ os s G) (hv : Ev (model prog w) A env ρ value (.t ds)) (ha : gS (model prog w) A ((assignEach elts env).map (·.2)) ds env ρ ρ')
 (h : ∀ s' G', Fm wr s₀ G₀ env ρ' os s' G' → wpAny (model prog w) A (execs rest env) Q E s')
 (hl : (assignEach elts env).length = ds.length := by rfl) (hstar : (assignEach elts env).findIdx? (·.1) = none := by rfl)
 (hsw : swapsWithSole [.Tuple elts k tp] value pos.line env = pure false := by rfl)
 (hw : swappedStores [.Tuple elts k tp] value env = pure none := by rfl) : wpAny (model prog w) A (execs (.Assign [.Tuple elts k tp] value pos :: rest) env) Q E s := by
 refine wpAny_execs_cons (Assign_Tuple (hv s G _ _ f.E fun v s₁ G₁ k₁ r => ?_) hsw hw)
 obtain ⟨a, its, rfl, ht, hsz, q⟩ := bW k₁.sub r
 refine wpAny_assign_Tuple hh ht (by erw [hl, hsz]) hstar fun h' hx => ?_
 have K : Kp s₁ G₁ { s₁ with heap := h' } G₁ := aW (tk := s₁.toks) k₁.sub fun b o e => hx b o (fun z => by rw [z, aq] at e; cases e) e
 exact ha _ _ _ _ _ _ _ _ _ ((f.go k₁).go K) q fun s₂ f₂ => h s₂ G₁ f₂
theorem gs {elts : List Expr} {k : Nat} {tp pos : Pos} {value : Expr} {ds : List D} {names : List Str} (hh : A.handled = none) (f : Fm wr s₀ G₀ env ρ os s G) (hv : Ev (model prog w) A env ρ value (.t ds)) (ha : gS (model prog w) A (names.reverse.map fun n => bindName env n) ds.reverse env ρ ρ')
 (h : ∀ s' G', Fm wr s₀ G₀ env ρ' os s' G' → wpAny (model prog w) A (execs rest env) Q E s')
 (hl : names.length = ds.length := by rfl)
 (hsw : swapsWithSole [.Tuple elts k tp] value pos.line env = pure false := by rfl)
 (hw : swappedStores [.Tuple elts k tp] value env = pure (some names) := by rfl) : wpAny (model prog w) A (execs (.Assign [.Tuple elts k tp] value pos :: rest) env) Q E s := by
 refine wpAny_execs_cons (Assign_Tuple_swapped (hv s G _ _ f.E fun v s₁ G₁ k₁ r => ?_) hsw hw)
 obtain ⟨a, its, rfl, ht, hsz, q⟩ := bW k₁.sub r
 erw [hl, ← hsz]
 refine unpackItems_tuple hh ht fun h' hx => ?_
 have K : Kp s₁ G₁ { s₁ with heap := h' } G₁ := aW (tk := s₁.toks) k₁.sub fun b o e => hx b o (fun z => by rw [z, aq] at e; cases e) e
 have rr : ∀ {ds : List D} {vs : List Value}, RpL G₁ ds vs → RpL G₁ ds.reverse vs.reverse := by
  intro ds
  induction ds with
  | nil => intro vs r; have r : vs = [] := r; subst r; exact rfl
  | cons d ds ih =>
    rintro vs ⟨v, r, rfl, rv, rr⟩
    erw [List.reverse_cons, List.reverse_cons]
    exact RpL.append (ih rr) (RpL.one rv)
 exact ha _ _ _ _ _ _ _ _ _ ((f.go k₁).go K) (rr q) fun s₂ f₂ => h s₂ G₁ f₂
noncomputable def jy (M : Model) (A : Around) (op : Operator) (da db d : D) : Prop :=
 ∀ (s : Shared) (G : Mem) (Q E : Value → Shared → Prop) (a b : Value), In G s.heap → Rp G da a → Rp G db b → Out s G d Q → wpAny M A (inplaceOp op a b) Q E s
theorem lF {s : Shared} {n : Int} {Q : Value → Shared → Prop} {G : Mem} (hG : In G s.heap) (hQ : Out s G (.i n) Q) : (Made.int n).post Q s := hQ _ _ _ (Kp.tok hG _) ⟨_, rfl⟩
theorem ni {a b : Int} : jy (model prog w) A .Add (.i a) (.i b) (.i (a + b)) := by
 rintro s G Q E _ _ hG ⟨t, rfl⟩ ⟨u, rfl⟩ hQ
 exact AutoIntOps.iadd_0 (lF hG hQ)
theorem iop_sub {a b : Int} : jy (model prog w) A .Sub (.i a) (.i b) (.i (a - b)) := by
 rintro s G Q E _ _ hG ⟨t, rfl⟩ ⟨u, rfl⟩ hQ
 exact AutoIntOps.isub_0 (lF hG hQ)
theorem jY {x : Str} {p' pos : Pos} {op : Operator} {value : Expr} {da db d : D} (f : Fm wr s₀ G₀ env ρ os s G) (hx : (x, da) ∈ ρ) (hv : Ev (model prog w) A env ρ value db) (ho : jy (model prog w) A op da db d) (hk : Knd env x) (hs : eg x d ρ ρ')
 (h : ∀ s' G', Fm wr s₀ G₀ env ρ' os s' G' → wpAny (model prog w) A (execs rest env) Q E s')
 (hl : env.kindOf x = some .local ∨ env.kindOf x = some .cell) : wpAny (model prog w) A (execs (.AugAssign (.Name x p') op value pos :: rest) env) Q E s := by
 refine wpAny_execs_cons (wpAny_AugAssign_Name ?_)
 obtain ⟨v, l, r⟩ := f.E.at' _ hx
 have go : wpAny (model prog w) A (eval value env) (fun v₂ s₂ => wpAny (model prog w) A (inplaceOp op v v₂) (fun r s₃ => wpAny (model prog w) A (storeName env x r) (fun ux s₄ => wpAny (model prog w) A (execs rest env) Q E s₄) E s₃) E s₂) E s := by
  refine hv s G _ _ f.E fun v₂ s₁ G₁ k₁ r₁ => ho s₁ G₁ _ _ _ _ k₁.sub (r.mono k₁.le) r₁ fun v₃ s₂ G₂ k₂ r₂ => ?_
  exact ((f.go k₁).go k₂).set hk r₂ hs fun s₃ f₃ => h s₃ G₂ f₃
 cases l with
 | loc a b c => exact wpAny_loadName_local f.E.fn a b c go
 | cel a b c => exact wpAny_loadName_cell f.E.fn a b c go
 | fre a b c n => exact wpAny_loadName_free f.E.fn a b c go n
 | glo a b c => rcases hl with hl | hl <;> rw [hl] at a <;> cases a
 | bui a b c d e => rcases hl with hl | hl <;> rw [hl] at a <;> cases a
 | glN a b c => rcases hl with hl | hl <;> rw [hl] at a <;> cases a
 | buN a b c d e => rcases hl with hl | hl <;> rw [hl] at a <;> cases a
theorem bB {test : Expr} {body orelse : List Stmt} {pos : Pos} {c : Bool} (f : Fm wr s₀ G₀ env ρ os s G) (ht : Tst (model prog w) A env ρ test c)
 (hb : ∀ s' G', Fm wr s₀ G₀ env ρ os s' G' → c = true → wpAny (model prog w) A (execs body env) (dC (model prog w) A env rest Q E) E s')
 (ho : ∀ s' G', Fm wr s₀ G₀ env ρ os s' G' → c = false → wpAny (model prog w) A (execs orelse env) (dC (model prog w) A env rest Q E) E s') :
 wpAny (model prog w) A (execs (.If test body orelse pos :: rest) env) Q E s := by
 refine wpAny_execs_cons (wpAny_If (ht s G _ _ f.E fun s₁ G₁ k₁ => ?_))
 cases c with
 | true => exact hb s₁ G₁ (f.go k₁) rfl
 | false => exact ho s₁ G₁ (f.go k₁) rfl
theorem bJ {e : Expr} {pos : Pos} {d : D} (f : Fm wr s₀ G₀ env ρ os s G) (hv : Ev (model prog w) A env ρ e d) (h : ∀ v s' G', Fm wr s₀ G₀ env ρ os s' G' → Rp G' d v → Q (.ret v) s') : wpAny (model prog w) A (execs (.Return (some e) pos :: rest) env) Q E s :=
 wpAny_execs_cons (wpAny_Return_some (hv s G _ _ f.E fun v s₁ G₁ k₁ r => h v s₁ G₁ (f.go k₁) r))
theorem de {e : Expr} {pos : Pos} (h : wpAny (model prog w) A (eval e env) (fun ux s₁ => wpAny (model prog w) A (execs rest env) Q E s₁) E s)
 (hi : interactive env = false := by rfl) (hs : swapsWith e none pos.line env = pure false := by rfl) : wpAny (model prog w) A (execs (.Expr e pos :: rest) env) Q E s :=
 wpAny_execs_cons (wpAny_Expr_any h hi hs)
theorem ly {x : Str} {p' pos cpos : Pos} {elt target iter : Expr} {ifs : List Expr} {scope : Scope} {xs : List D} {cl : List (Str × Addr)} (g : D → D) (p : D → Bool) (ρc : List (Str × D)) (ρi : D → List (Str × D))
 (f : Fm wr s₀ G₀ env ρ os s G) (hit : It prog w A target env ρ iter xs) (hclos : closureFor scope env = pure cl) (hcell : ∀ y ∈ scope.names, y.2 ≠ .cell) (hkind : scope.kind = .function)
 (hnames : ∀ y ∈ scope.names, y.2 = .local → scope.names.lookup y.1 = some .local)
 (hcap : ∀ C h G, En h G env ρ → En h G (compEnvC scope cl C env) ρc)
 (has : ∀ C d, d ∈ xs → As (model prog w) A target d (compEnvC scope cl C env) ρc (ρi d))
 (ht : ∀ C d, d ∈ xs → Ts (model prog w) A (compEnvC scope cl C env) (ρi d) ifs (p d))
 (he : ∀ C d, d ∈ xs → p d = true → Ev (model prog w) A (compEnvC scope cl C env) (ρi d) elt (g d))
 (hsz : xs.length ≤ 1000000) (hk : Knd env x)
 (h : ∀ s' G' a, Fm wr s₀ G₀ env ((x, .v (.ref a)) :: ρ.filter fun p => p.1 != x) ((a, .l ((xs.filter p).map g)) :: os) s' G' → a ∉ wr → wpAny (model prog w) A (execs rest env) Q E s')
 (hsw : swapsWith (.ListComp elt [⟨target, iter, ifs, 0⟩] scope cpos) (some (.Name x p')) pos.line env = pure true := by rfl)
 (hs : ∀ x, foldedSetIterable iter env x = pure x := by intro _; rfl) :
 wpAny (model prog w) A (execs (.Assign [.Name x p'] (.ListComp elt [⟨target, iter, ifs, 0⟩] scope cpos) pos :: rest) env) Q E s := by
 refine wpAny_execs_cons ?_
 erw [exec_Assign_Name_used _ _ _ _ hsw]
 refine wpAny_bind (wpAny_standAt (wpAny_bind ?_))
 show wpAny _ A (do let _ ← comprehension (.ListComp elt [⟨target, iter, ifs, 0⟩] scope cpos) scope env _ (newList []) false (eval iter env) (some (assign (.Name x p') env))) _ _ s
 refine wpAny_bind (wpAny_mono (wpAny_comprehension_free (Q := fun ux s' => wpAny (model prog w) A (execs rest env) Q E s') rfl hs hclos hkind hnames (hit s G _ _ f.E fun I wi St s₂ G₂ k₂ hwr W hst => ?_))
  (fun ux s' hq => wpAny_pure (wpAny_pure hq)) fun ux ux e => e)
 refine gy (RR := fun acc C => compPost (model prog w) A E (some (assign (.Name x p') env)) (fun ux s' => wpAny (model prog w) A (execs rest env) Q E s') acc C) hcell hkind hcap has ht he hsz f.E k₂ hwr W hst ?_
 intro s' G' Da C ys n K hCD fD fC gD gC hoC eD ry hns
 obtain ⟨m, hm⟩ := hns
 obtain ⟨oC, eC⟩ := hoC
 have na : Da ∉ wr := f.notin fD
 have f₁ : Fm wr s₀ G₀ env ρ ((Da, .l ((xs.filter p).map g)) :: os) s' G' := f.take' K fD gD eD ⟨ys, n, rfl, ry⟩
 have f₂ : Fm wr s₀ G₀ env ρ ((C, .o oC) :: (Da, .l ((xs.filter p).map g)) :: os) s' G' := by
  refine f₁.take (fun b hb q => ?_) (fun q => ?_) (fun q => ?_) ?_ gC eC rfl
  · rcases List.mem_append.mp hb with z | z
    · obtain ⟨_, o', e'⟩ := f.out (List.mem_append_left _ z)
      rw [q, fC] at e'; cases e'
    · rcases List.mem_cons.mp z with z | z
      · exact hCD (z.symm.trans q)
      · obtain ⟨_, o', e'⟩ := f.out (List.mem_append_right _ z)
        rw [q, fC] at e'; cases e'
  · obtain ⟨m, o', _, _, e', _⟩ := f.E.gl
    rw [← q, fC] at e'; cases e'
  · obtain ⟨m, o', _, _, e', _⟩ := f.E.bu
    rw [← q, fC] at e'; cases e'
  · cases z : s₀.heap.get? C with
    | none => rfl
    | some o' =>
      rw [f.K.hp C o' (f.notin fC) z] at fC; cases fC
 show wpAny _ A (assign (.Name x p') env (.ref Da)) _ _ s'
 refine wpAny_assign_Name (f₂.set (d := .v (.ref Da)) (ρ' := (x, .v (.ref Da)) :: ρ.filter fun p => p.1 != x) hk rfl (fun q hq => ?_) fun s₃ f₃ => ?_)
 · rcases List.mem_cons.mp hq with rfl | hq
   · exact .inl rfl
   · rw [List.mem_filter] at hq
     exact .inr ⟨hq.1, by simpa using hq.2⟩
 · obtain ⟨_, _, o₃, e₃, hk₃⟩ := f₃.S _ (.head _)
   have hk₃ : o₃ = oC := hk₃
   subst hk₃
   have hC₃ : s₃.heap.Ns C m := by
    obtain ⟨o, es, ep, e, r⟩ := hm
    rw [e] at eC; cases eC
    exact ⟨_, es, ep, e₃, r⟩
   refine ⟨m, hC₃, fun h' hs' => ?_⟩
   have e' : ∃ o', h'.get? C = some o' ∨ h'.get? C = none := by
    cases q : h'.get? C with
    | none => exact ⟨o₃, .inr rfl⟩
    | some o' => exact ⟨o', .inl rfl⟩
   have f₄ : Fm wr s₀ G₀ env ((x, .v (.ref Da)) :: ρ.filter fun p => p.1 != x) ((Da, .l ((xs.filter p).map g)) :: os) { s₃ with heap := h' } G' := by
    have nC : ∀ q ∈ (Da, Kd.l ((xs.filter p).map g)) :: os, q.1 ≠ C := fun q hq z => (List.nodup_cons.mp f₃.N).1 (by
     have := List.mem_map_of_mem (f := fun (x : Addr × Kd) => x.1) hq
     rw [z] at this; exact this)
    obtain ⟨gC', nfar, _⟩ := f₃.S _ (.head _)
    have f₃' := f₃.drop (f.notin fC)
    have nl : env.locals ≠ C := fun q => nfar (q ▸ .tail _ (.tail _ (.head _)))
    have ng : env.globals ≠ C := fun q => nfar (q ▸ .head _)
    have nb : env.builtins ≠ C := fun q => nfar (q ▸ .tail _ (.head _))
    have nc : ∀ {x c}, (x, c) ∈ env.cells → c ≠ C := fun {x c} hx q => nfar (q ▸ .tail _ (.tail _ (.tail _ (List.mem_map_of_mem (f := fun (x : Str × Addr) => x.2) hx))))
    have K₄ : KpB [C] s₃ G' { s₃ with heap := h' } G' := KpB.same (t := s₃.toks) f₃.E.sub hs' gC'
    refine ⟨?_, ⟨f₃.E.fn, ?_, ?_, K₄.sub, fun p hp => ?_⟩, ⟨?_, f₃.O.gn, f₃.O.gl, f₃.O.bu, f₃.O.fn, fun y c hy => ⟨?_, (f₃.O.cel y c hy).2⟩, f₃.O.ap⟩, fun q hq => ?_, f₃'.N, f₃'.F, f₃'.W⟩
    · obtain ⟨h₃, t₃, e₃', kk⟩ := f₃'.K.k
      refine ⟨⟨h', s₃.toks, by erw [e₃'], fun b o n z => ?_⟩, f₃'.K.le, K₄.sub, f₃'.K.new⟩
      refine hs'.extBut b o (fun q => ?_) (f₃'.K.hp b o n z)
      rcases f₃.F C (List.mem_append_right _ (.head _)) with y | y
      · exact n (q ▸ y)
      · rw [q, y] at z; cases z
    · obtain ⟨m, n⟩ := f₃.E.gl; exact ⟨m, n.sameBut hs' ng⟩
    · obtain ⟨m, n⟩ := f₃.E.bu; exact ⟨m, n.sameBut hs' nb⟩
    · obtain ⟨u, hl, hu⟩ := f₃.E.at' p hp
      refine ⟨u, ?_, hu⟩
      cases hl with
      | loc x b c => exact .loc x (b.sameBut hs' nl) c
      | cel x b c => obtain ⟨o, e, q⟩ := c; exact .cel x b ⟨o, hs'.extBut _ _ (nc (aJ b)) e, q⟩
      | fre x b c n => obtain ⟨o, e, q⟩ := c; exact .fre x b ⟨o, hs'.extBut _ _ (nc (aJ b)) e, q⟩ n
      | glo x b c => exact .glo x (b.sameBut hs' ng) c
      | bui x b c d e => exact .bui x (b.sameBut hs' ng) c (d.sameBut hs' nb) e
      | glN x b c => exact .glN x (b.sameBut hs' ng) c
      | buN x b c d e => exact .buN x (b.sameBut hs' ng) c (d.sameBut hs' nb) e
    · obtain ⟨m, n⟩ := f₃.O.ns; exact ⟨m, n.sameBut hs' nl⟩
    · obtain ⟨⟨v, o, e, q⟩, _⟩ := f₃.O.cel y c hy
      exact ⟨v, o, hs'.extBut _ _ (nc hy) e, q⟩
    · obtain ⟨g, n, o, e, z⟩ := f₃'.S q hq
      exact ⟨g, n, o, hs'.extBut _ _ (nC q hq) e, z⟩
   exact h _ G' Da f₄ na
theorem dp {x : Str} {p' pos cpos : Pos} {elt target iter : Expr} {ifs : List Expr} {scope : Scope} {xs : List D} {cl : List (Str × Addr)} (g : D → D) (p : D → Bool) (ρc : List (Str × D)) (ρi : D → List (Str × D))
 (f : Fm wr s₀ G₀ env ρ os s G) (hit : It prog w A target env ρ iter xs) (hclos : closureFor scope env = pure cl) (hcell : ∀ y ∈ scope.names, y.2 ≠ .cell) (hkind : scope.kind = .function)
 (hnames : ∀ y ∈ scope.names, y.2 = .local → scope.names.lookup y.1 = some .local)
 (hcap : ∀ C h G, En h G env ρ → En h G (compEnvC scope cl C env) ρc)
 (has : ∀ C d, d ∈ xs → As (model prog w) A target d (compEnvC scope cl C env) ρc (ρi d))
 (ht : ∀ C d, d ∈ xs → Ts (model prog w) A (compEnvC scope cl C env) (ρi d) ifs (p d))
 (he : ∀ C d, d ∈ xs → p d = true → Ev (model prog w) A (compEnvC scope cl C env) (ρi d) elt (g d))
 (hsz : xs.length ≤ 1000000) (hk : Knd env x) (hset : eg x (.l ((xs.filter p).map g)) ρ ρ')
 (h : ∀ s' G', Fm wr s₀ G₀ env ρ' os s' G' → wpAny (model prog w) A (execs rest env) Q E s')
 (hsw : swapsWith (.ListComp elt [⟨target, iter, ifs, 0⟩] scope cpos) (some (.Name x p')) pos.line env = pure true := by rfl)
 (hs : ∀ x, foldedSetIterable iter env x = pure x := by intro _; rfl) :
 wpAny (model prog w) A (execs (.Assign [.Name x p'] (.ListComp elt [⟨target, iter, ifs, 0⟩] scope cpos) pos :: rest) env) Q E s := by
 refine ly g p ρc ρi f hit hclos hcell hkind hnames hcap has ht he hsz hk (fun s' G' a f₁ na => ?_) hsw hs
 have hb : Bears a ((xs.filter p).map g) ((x, .v (.ref a)) :: ρ.filter fun p => p.1 != x) ρ' := fun q hq => by
  rcases hset q hq with rfl | ⟨hq', hne⟩
  · exact .inr ⟨rfl, .head _⟩
  · exact .inl (.tail _ (List.mem_filter.mpr ⟨hq', by simpa using hne⟩))
 obtain ⟨G₂, f₂, _⟩ := f₁.freeze na hb
 exact h s' G₂ f₂
end
set_option tactic.hygienic false
noncomputable def Asg (M : Model) (A : Around) (target : Expr) (d : D) (env : Env) (ρ ρ' : List (Str × D)) : Prop :=
 ∀ (wr : List Addr) (s₀ : Shared) (G₀ : Mem) (os : List (Addr × Kd)) (s : Shared) (G : Mem) (v : Value) (Q : Unit → Shared → Prop) (E : Value → Shared → Prop), Fm wr s₀ G₀ env ρ os s G → Rp G d v →
   (∀ s', Fm wr s₀ G₀ env ρ' os s' G → Q () s') → wpAny M A (assign target env v) Q E s
section
variable {prog : Program} {w : World} {A : Around} {wr wi : List Addr} {s₀ s s' : Shared} {G₀ G G' : Mem} {env : Env} {ρ ρ' ρ₁ : List (Str × D)} {os os' : List (Addr × Kd)} {rest : List Stmt} {Q : Flow → Shared → Prop} {E : Value → Shared → Prop}
theorem bS {x : Str} {pos : Pos} {d : D} (hk : Knd env x) (hs : eg x d ρ ρ') : Asg (model prog w) A (.Name x pos) d env ρ ρ' :=
 fun wr s₀ G₀ os s G v Q E f r hQ => wpAny_assign_Name (f.set hk r hs hQ)
theorem mP {elts : List Expr} {k : Nat} {tp : Pos} {ds : List D} (hh : A.handled = none) (ha : gS (model prog w) A ((assignEach elts env).map (·.2)) ds env ρ ρ')
 (hl : (assignEach elts env).length = ds.length := by rfl) (hstar : (assignEach elts env).findIdx? (·.1) = none := by rfl) : Asg (model prog w) A (.Tuple elts k tp) (.t ds) env ρ ρ' := by
 intro wr s₀ G₀ os s G v Q E f r hQ
 obtain ⟨a, its, rfl, ht, hsz, q⟩ := bW f.E.sub r
 refine wpAny_assign_Tuple hh ht (by erw [hl, hsz]) hstar fun h' hx => ?_
 have K : Kp s G { s with heap := h' } G := aW (tk := s.toks) f.E.sub fun b o e => hx b o (fun z => by rw [z, aq] at e; cases e) e
 exact ha _ _ _ _ _ _ _ _ _ (f.go K) q fun s₂ f₂ => hQ s₂ f₂
theorem Fm.iter (f : Fm wr s₀ G₀ env ρ os s G) (k : KpB wi s G s' G') (hw : ∀ b ∈ wi, b ∉ all env os ∧ b ≠ env.globals ∧ b ≠ env.builtins ∧ s₀.heap.get? b = none) : Fm wr s₀ G₀ env ρ os s' G' := by
 have kp : ∀ b ∈ all env os, ∀ o, s.heap.get? b = some o → s'.heap.get? b = some o := fun b hb o e => k.hp b o (fun m => (hw b m).1 hb) e
 have gn : ∀ b ∈ all env os, G' b = none := fun b hb => by
  obtain ⟨g, o, e⟩ := f.out hb
  cases q : G' b with
  | none => rfl
  | some o' => rcases k.new b o' q with z | z
               · rw [g] at z; cases z
               · rw [e] at z; cases z
 have kl : ∀ o, s.heap.get? env.locals = some o → s'.heap.get? env.locals = some o := kp _ (.head _)
 have kg : ∀ o, s.heap.get? env.globals = some o → s'.heap.get? env.globals = some o := fun o e => k.hp _ o (fun m => (hw _ m).2.1 rfl) e
 have kb : ∀ o, s.heap.get? env.builtins = some o → s'.heap.get? env.builtins = some o := fun o e => k.hp _ o (fun m => (hw _ m).2.2.1 rfl) e
 have kc : ∀ {x c}, (x, c) ∈ env.cells → ∀ o, s.heap.get? c = some o → s'.heap.get? c = some o := fun {x c} hx => kp _ (List.mem_append_left _ (.tail _ (List.mem_map_of_mem (f := fun (x : Str × Addr) => x.2) hx)))
 refine ⟨⟨?_, fun b o e => k.le b o (f.K.le b o e), k.sub, fun b o e => ?_⟩, ⟨f.E.fn, ?_, ?_, k.sub, fun p hp => ?_⟩, ⟨?_, gn _ (.head _), f.O.gl, f.O.bu, f.O.fn, fun y c hy => ⟨?_, gn _ (List.mem_append_left _ (.tail _ (List.mem_map_of_mem (f := fun (x : Str × Addr) => x.2) hy)))⟩, f.O.ap⟩, fun p hp => ?_, f.N, f.F, f.W⟩
 · obtain ⟨h, t, e, kk⟩ := f.K.k
   obtain ⟨h', t', e', kk'⟩ := k.k
   subst e e'
   refine ⟨h', t', rfl, fun b o n z => kk' b o (fun m => ?_) (kk b o n z)⟩
   rw [(hw b m).2.2.2] at z; cases z
 · rcases k.new b o e with q | q
   · exact f.K.new b o q
   · right
     cases z : s₀.heap.get? b with
     | none => rfl
     | some o' =>
       by_cases hb : b ∈ wr
       · obtain ⟨_, o'', e''⟩ := f.out (f.W b hb)
         rw [q] at e''; cases e''
       · rw [f.K.hp b o' hb z] at q; cases q
 · obtain ⟨m, n⟩ := f.E.gl; exact ⟨m, n.at' kg⟩
 · obtain ⟨m, n⟩ := f.E.bu; exact ⟨m, n.at' kb⟩
 · obtain ⟨u, hl, hu⟩ := f.E.at' p hp
   refine ⟨u, ?_, hu.mono k.le⟩
   cases hl with
   | loc x b c => exact .loc x (b.at' kl) c
   | cel x b c => obtain ⟨o, e, q⟩ := c; exact .cel x b ⟨o, kc (aJ b) _ e, q⟩
   | fre x b c n => obtain ⟨o, e, q⟩ := c; exact .fre x b ⟨o, kc (aJ b) _ e, q⟩ n
   | glo x b c => exact .glo x (b.at' kg) c
   | bui x b c d e => exact .bui x (b.at' kg) c (d.at' kb) e
   | glN x b c => exact .glN x (b.at' kg) c
   | buN x b c d e => exact .buN x (b.at' kg) c (d.at' kb) e
 · obtain ⟨m, n⟩ := f.O.ns; exact ⟨m, n.at' kl⟩
 · obtain ⟨⟨v, o, e, q⟩, _⟩ := f.O.cel y c hy
   exact ⟨v, o, kc hy _ e, q⟩
 · obtain ⟨g, n, o, e, z⟩ := f.S p hp
   have ha : p.1 ∈ all env os := List.mem_append_right _ (List.mem_map_of_mem hp)
   exact ⟨gn _ ha, n, o, kp _ ha o e, z.mono k.le⟩
noncomputable abbrev loopR (M : Model) (A : Around) (env : Env) (rest : List Stmt) (Q : Flow → Shared → Prop) (E : Value → Shared → Prop) : Result → Shared → Prop := fun r s' => match r with
 | .ok fl => (match fl with | .next => wpAny M A (execs rest env) Q E s' | fl => Q fl s')
 | .error e => cameBackBy M A env E e s'
noncomputable abbrev mH (M : Model) (A : Around) (env : Env) (E : Value → Shared → Prop) : Value → Shared → Prop := notedBy M A env fun e s' => cameBackBy M A env E e s'
noncomputable def pA (wr : List Addr) (s₀ : Shared) (G₀ : Mem) (env : Env) (wi : List Addr) (G₂ : Mem) (St : Nat → Heap → Prop) (n : Nat) (Inv : Nat → List (Str × D) → List (Addr × Kd) → Prop) (k : Nat) (s : Shared) : Prop :=
 ∃ i ρ os G, Inv i ρ os ∧ Fm wr s₀ G₀ env ρ os s G ∧ St i s.heap ∧ (∀ b ∈ wi, G b = none) ∧ Le G₂ G ∧ (∀ b ∈ wi, b ∉ all env os) ∧ i ≤ n ∧ k = n + 1 - i
theorem lx {target : Expr} {body orelse : List Stmt} {xs : List D} (Inv : Nat → List (Str × D) → List (Addr × Kd) → Prop) (IB : List (Str × D) → List (Addr × Kd) → Prop) (IR : D → List (Str × D) → List (Addr × Kd) → Prop) (XI : List (Str × D) → List (Addr × Kd) → Prop) (Ex : Value → Shared → Shared → Mem → Shared → Prop)
 {I : Addr} {wi : List Addr} {St : Nat → Heap → Prop} {s₂ : Shared} {G₂ : Mem} (f : Fm wr s₀ G₀ env ρ os s G) (k₂ : Kp s G s₂ G₂) (hwi : ∀ b ∈ wi, s.heap.get? b = none ∧ G₂ b = none) (W : Wk prog w A target G₂ I wi xs St) (hst : St 0 s₂.heap) (h0 : Inv 0 ρ os)
 (turn : ∀ i d ρi osi, xs[i]? = some d → Inv i ρi osi → ∃ ρ₁, Asg (model prog w) A target d env ρi ρ₁ ∧ ∀ (wr : List Addr) (s₀ : Shared) (G₀ : Mem) (s : Shared) (G : Mem) (E' : Value → Shared → Prop), (∀ e sr G' ρ' os' s₃, XI ρ' os' → Fm wr s₀ G₀ env ρ' os' sr G' → Ex e s₀ sr G' s₃ → E' e s₃) → Fm wr s₀ G₀ env ρ₁ osi s G →
  wpAny (model prog w) A (execs body env) (mR (Inv (i + 1)) IB IR wr s₀ G₀ env) E' s)
 (hend : ∀ ρ' os' s' G' E', Inv xs.length ρ' os' → Fm wr s₀ G₀ env ρ' os' s' G' → wpAny (model prog w) A (execs orelse env) (dC (model prog w) A env rest Q E) E' s')
 (hbrk : ∀ ρ' os' s' G', IB ρ' os' → Fm wr s₀ G₀ env ρ' os' s' G' → wpAny (model prog w) A (execs rest env) Q E s')
 (hret : ∀ v d ρ' os' s' G', IR d ρ' os' → Rp G' d v → Fm wr s₀ G₀ env ρ' os' s' G' → Q (.ret v) s')
 (hexc : ∀ e sb Gb ρb osb sr G' ρ' os' s₃, Fm wr s₀ G₀ env ρb osb sb Gb → XI ρ' os' → Fm wr s₀ G₀ env ρ' os' sr G' → Ex e sb sr G' s₃ → notedBy (model prog w) A env (fun e s' => cameBackBy (model prog w) A env E e s') e s₃) :
 codeAny (model prog w) A (.forLoop target (.ref I) body orelse env) (loopR (model prog w) A env rest Q E) s₂ := by
 have f₂ := f.go k₂
 have live₀ : ∀ b ∈ wi, ∃ o, s₂.heap.get? b = some o := W.live 0 _ hst
 have far₀ : ∀ b ∈ wi, b ≠ env.globals ∧ b ≠ env.builtins ∧ s₀.heap.get? b = none := fun b hb => by
  have fr := (hwi b hb).1
  refine ⟨fun q => ?_, fun q => ?_, ?_⟩
  · obtain ⟨m, o', _, _, e', _⟩ := f.E.gl
    rw [← q, fr] at e'; cases e'
  · obtain ⟨m, o', _, _, e', _⟩ := f.E.bu
    rw [← q, fr] at e'; cases e'
  · cases z : s₀.heap.get? b with
    | none => rfl
    | some o' => rw [f.K.hp b o' (f.notin fr) z] at fr; cases fr
 have ap₀ : ∀ b ∈ wi, b ∉ all env os := fun b hb hm => by
  obtain ⟨_, o, e⟩ := f.out hm
  rw [(hwi b hb).1] at e; cases e
 refine codeAny_forLoop_any (pA wr s₀ G₀ env wi G₂ St xs.length Inv) ?_ (xs.length + 1)
  ⟨0, ρ, os, G₂, h0, f₂, hst, fun b hb => (hwi b hb).2, fun ux ux e => e, ap₀, Nat.zero_le _, rfl⟩
 rintro k s' ⟨i, ρi, osi, G', hI, fi, st, gw, le, ap, hi, rfl⟩
 have far' : ∀ b ∈ wi, b ∉ all env osi ∧ b ≠ env.globals ∧ b ≠ env.builtins ∧ s₀.heap.get? b = none := fun b hb => ⟨ap b hb, far₀ b hb⟩
 by_cases hlt : i < xs.length
 · have hd : xs[i]? = some xs[i] := List.getElem?_eq_getElem hlt
   obtain ⟨ρ₁, hasg, hbody⟩ := turn i xs[i] ρi osi hd hI
   refine wpAny_mono (W.item i xs[i] s' G' (fun v s₁' => wpAny (model prog w) A (assign target env v) (fun ux s₂ => wpAny (model prog w) A (execs body env) (fun f s₃ => match f with
    | .next | .cont => ∃ m, m < xs.length + 1 - i ∧ pA wr s₀ G₀ env wi G₂ St xs.length Inv m s₃
    | .brk => wpAny (model prog w) A (execs rest env) Q E s₃
    | .ret v => Q (.ret v) s₃) (mH (model prog w) A env E) s₂) (mH (model prog w) A env E) s₁') (mH (model prog w) A env E) hd le fi.E.sub gw st ?_) (fun r s₁ h₁ => ?_) fun ux ux h => h
   · intro v s₁ G₁ k₁ gw₁ rv st₁
     have f₁ := fi.iter k₁ far'
     have live₁ := W.live _ _ st₁
     refine hasg _ _ _ _ _ _ _ _ _ f₁.rf rv fun s₂' fa => ?_
     refine wpAny_mono (hbody _ _ _ _ _ (mH (model prog w) A env E) (fun e sr G' ρ' os' s₃ hx g ex => hexc e _ _ _ _ sr G' ρ' os' s₃ f₁ hx (f₁.trans g) ex) fa) (fun fl s₃ h₃ => ?_) fun ux ux h => h
     have fin : ∀ {ρ' os' G''}, Inv (i + 1) ρ' os' → Fm (all env osi) s₁ G₁ env ρ' os' s₃ G'' → ∃ m, m < xs.length + 1 - i ∧ pA wr s₀ G₀ env wi G₂ St xs.length Inv m s₃ := by
      intro ρ' os' G'' hI' g
      refine ⟨xs.length + 1 - (i + 1), by lia, i + 1, ρ', os', G'', hI', f₁.trans g, W.frame _ _ _ st₁ fun b hb o e => g.K.hp b o (ap b hb) e, fun b hb => ?_, fun b o e => g.K.le b o (k₁.le b o (le b o e)), fun b hb hm => ?_, hlt, rfl⟩
      · obtain ⟨o, e⟩ := live₁ b hb
        cases q : G'' b with
        | none => rfl
        | some o' => rcases g.K.new b o' q with z | z
                     · rw [gw₁ b hb] at z; cases z
                     · rw [e] at z; cases z
      · obtain ⟨o, e⟩ := live₁ b hb
        rcases g.F b hm with z | z
        · exact ap b hb z
        · rw [e] at z; cases z
     cases fl with
     | next => obtain ⟨ρ', os', G'', hI', g⟩ := h₃; exact fin hI' g
     | cont => obtain ⟨ρ', os', G'', hI', g⟩ := h₃; exact fin hI' g
     | brk => obtain ⟨ρ', os', G'', hI', g⟩ := h₃; exact hbrk ρ' os' s₃ G'' hI' (f₁.trans g)
     | ret v => obtain ⟨ρ', os', G'', d, hI', r, g⟩ := h₃; exact hret v d ρ' os' s₃ G'' hI' r (f₁.trans g)
   · cases r with
     | none => exact h₁.elim
     | some v =>
       refine wpAny_mono h₁ (fun ux s₂ h₂ => wpAny_mono h₂ (fun ux s₃ h₃ => wpAny_mono h₃ (fun fl s₄ h₄ => ?_) fun ux ux h => h) fun ux ux h => h) fun ux ux h => h
       cases fl <;> exact h₄
 · have hin : i = xs.length := by lia
   subst hin
   refine W.done s' G' _ _ le fi.E.sub gw st fun s₁ k₁ => ?_
   have f₁ := fi.iter k₁ far'
   refine wpAny_mono (hend _ _ _ _ _ hI f₁) (fun fl s₃ h₃ => ?_) fun ux ux h => h
   cases fl <;> exact h₃
theorem mY {target iter : Expr} {body orelse : List Stmt} {pos : Pos} {xs : List D} (Inv : Nat → List (Str × D) → List (Addr × Kd) → Prop) (IB : List (Str × D) → List (Addr × Kd) → Prop) (IR : D → List (Str × D) → List (Addr × Kd) → Prop) (XI : List (Str × D) → List (Addr × Kd) → Prop) (Ex : Value → Shared → Shared → Mem → Shared → Prop)
 (f : Fm wr s₀ G₀ env ρ os s G) (hit : It prog w A target env ρ iter xs) (h0 : Inv 0 ρ os)
 (turn : ∀ i d ρi osi, xs[i]? = some d → Inv i ρi osi → ∃ ρ₁, Asg (model prog w) A target d env ρi ρ₁ ∧ ∀ (wr : List Addr) (s₀ : Shared) (G₀ : Mem) (s : Shared) (G : Mem) (E' : Value → Shared → Prop), (∀ e sr G' ρ' os' s₃, XI ρ' os' → Fm wr s₀ G₀ env ρ' os' sr G' → Ex e s₀ sr G' s₃ → E' e s₃) → Fm wr s₀ G₀ env ρ₁ osi s G →
  wpAny (model prog w) A (execs body env) (mR (Inv (i + 1)) IB IR wr s₀ G₀ env) E' s)
 (hend : ∀ ρ' os' s' G' E', Inv xs.length ρ' os' → Fm wr s₀ G₀ env ρ' os' s' G' → wpAny (model prog w) A (execs orelse env) (dC (model prog w) A env rest Q E) E' s')
 (hbrk : ∀ ρ' os' s' G', IB ρ' os' → Fm wr s₀ G₀ env ρ' os' s' G' → wpAny (model prog w) A (execs rest env) Q E s')
 (hret : ∀ v d ρ' os' s' G', IR d ρ' os' → Rp G' d v → Fm wr s₀ G₀ env ρ' os' s' G' → Q (.ret v) s')
 (hexc : ∀ e sb Gb ρb osb sr G' ρ' os' s₃, Fm wr s₀ G₀ env ρb osb sb Gb → XI ρ' os' → Fm wr s₀ G₀ env ρ' os' sr G' → Ex e sb sr G' s₃ → notedBy (model prog w) A env (fun e s' => cameBackBy (model prog w) A env E e s') e s₃)
 (hs : ∀ x, foldedSetIterable iter env x = pure x := by intro _; rfl) :
 wpAny (model prog w) A (execs (.For target iter body orelse pos :: rest) env) Q E s :=
 wpAny_execs_cons (wpAny_For (hit s G _ _ f.E fun I wi St s₂ G₂ k₂ hwi W hst => lx Inv IB IR XI Ex f k₂ hwi W hst h0 turn hend hbrk hret hexc) hs)
theorem lS {target iter : Expr} {body orelse : List Stmt} {pos : Pos} {xs : List D} (Inv : Nat → List (Str × D) → List (Addr × Kd) → Prop) (IB : List (Str × D) → List (Addr × Kd) → Prop) (IR : D → List (Str × D) → List (Addr × Kd) → Prop)
 (f : Fm wr s₀ G₀ env ρ os s G) (hit : It prog w A target env ρ iter xs) (h0 : Inv 0 ρ os)
 (turn : ∀ i d ρi osi, xs[i]? = some d → Inv i ρi osi → ∃ ρ₁, Asg (model prog w) A target d env ρi ρ₁ ∧ ∀ (wr : List Addr) (s₀ : Shared) (G₀ : Mem) (s : Shared) (G : Mem) (E' : Value → Shared → Prop), Fm wr s₀ G₀ env ρ₁ osi s G →
  wpAny (model prog w) A (execs body env) (mR (Inv (i + 1)) IB IR wr s₀ G₀ env) E' s)
 (hend : ∀ ρ' os' s' G' E', Inv xs.length ρ' os' → Fm wr s₀ G₀ env ρ' os' s' G' → wpAny (model prog w) A (execs orelse env) (dC (model prog w) A env rest Q E) E' s')
 (hbrk : ∀ ρ' os' s' G', IB ρ' os' → Fm wr s₀ G₀ env ρ' os' s' G' → wpAny (model prog w) A (execs rest env) Q E s')
 (hret : ∀ v d ρ' os' s' G', IR d ρ' os' → Rp G' d v → Fm wr s₀ G₀ env ρ' os' s' G' → Q (.ret v) s')
 (hs : ∀ x, foldedSetIterable iter env x = pure x := by intro _; rfl) :
 wpAny (model prog w) A (execs (.For target iter body orelse pos :: rest) env) Q E s :=
 mY Inv IB IR (fun ux ux => False) (fun ux ux ux ux ux => False) f hit h0 (fun i d ρi osi hd hi => let ⟨ρ₁, a, b⟩ := turn i d ρi osi hd hi; ⟨ρ₁, a, fun wr s₀ G₀ s G E' ux f => b wr s₀ G₀ s G E' f⟩) hend hbrk hret (fun ux ux ux ux ux ux ux ux ux ux ux h => h.elim) hs
theorem dh {target iter : Expr} {body orelse : List Stmt} {pos : Pos} {xs : List D} (R : Nat → List (Str × D)) (O : Nat → List (Addr × Kd))
 (f : Fm wr s₀ G₀ env (R 0) (O 0) s G) (hit : It prog w A target env (R 0) iter xs)
 (turn : ∀ i d, xs[i]? = some d → ∃ ρ₁, Asg (model prog w) A target d env (R i) ρ₁ ∧ ∀ (wr : List Addr) (s₀ : Shared) (G₀ : Mem) (s : Shared) (G : Mem) (E' : Value → Shared → Prop) (Qt : Flow → Shared → Prop), (∀ s' G', Fm wr s₀ G₀ env (R (i + 1)) (O (i + 1)) s' G' → Qt .next s') → Fm wr s₀ G₀ env ρ₁ (O i) s G →
  wpAny (model prog w) A (execs body env) Qt E' s)
 (hend : ∀ s' G' E', Fm wr s₀ G₀ env (R xs.length) (O xs.length) s' G' → wpAny (model prog w) A (execs orelse env) (dC (model prog w) A env rest Q E) E' s')
 (hs : ∀ x, foldedSetIterable iter env x = pure x := by intro _; rfl) :
 wpAny (model prog w) A (execs (.For target iter body orelse pos :: rest) env) Q E s :=
 lS (fun i ρi osi => ρi = R i ∧ osi = O i) (fun ux ux => False) (fun ux ux ux => False) f hit ⟨rfl, rfl⟩
  (fun i d ρi osi hd hi => by
   cases hi.1
   cases hi.2
   have ⟨ρ₁, a, b⟩ := turn i d hd
   exact ⟨ρ₁, a, fun wr s₀ G₀ s G E' f => b wr s₀ G₀ s G E' _ (fun s' G' f' => ⟨_, _, G', ⟨rfl, rfl⟩, f'⟩) f⟩)
  (fun ρ' os' s' G' E' hi f' => by
   cases hi.1
   cases hi.2
   exact hend s' G' E' f')
  (fun ux ux ux ux h => h.elim) (fun ux ux ux ux ux ux h => h.elim) hs
end
set_option tactic.hygienic false
section
variable {α : Type} {a a0 a1 a2 a3 a4 a5 : α} {l : List α}
theorem m6 (h : a ∈ l) : a ∈ a0 :: a1 :: a2 :: a3 :: a4 :: a5 :: l := .tail _ (.tail _ (.tail _ (.tail _ (.tail _ (.tail _ h)))))
theorem m0 : a0 ∈ a0 :: l := .head _
theorem m1 : a1 ∈ a0 :: a1 :: l := .tail _ m0
theorem m2 : a2 ∈ a0 :: a1 :: a2 :: l := .tail _ m1
theorem m3 : a3 ∈ a0 :: a1 :: a2 :: a3 :: l := .tail _ m2
theorem m4 : a4 ∈ a0 :: a1 :: a2 :: a3 :: a4 :: l := .tail _ m3
theorem m5 : a5 ∈ a0 :: a1 :: a2 :: a3 :: a4 :: a5 :: l := .tail _ m4
end
noncomputable abbrev lH (M : Model) (A : Around) (env : Env) (E : Value → Shared → Prop) (e : Value) (s' : Shared) : Prop :=
 wpAny M (A.deeper env) (leaving env e) (fun ux s'' => E e s'') (fun e' s'' => E e' s'') s'
theorem cT : ∀ {l : List (Str × Addr)}, (l.Pairwise fun x y => x.2 ≠ y.2) → ∀ x y c, (x, c) ∈ l → (y, c) ∈ l → x = y
 | [], _, _, _, _, h, _ => by cases h
 | p :: l, hp, x, y, c, h, h' => by
   rw [List.pairwise_cons] at hp
   rcases List.mem_cons.mp h with q | q
   · rcases List.mem_cons.mp h' with q' | q'
     · rw [← q] at q'; cases q'; rfl
     · exact absurd (by rw [← q]) (hp.1 _ q')
   · rcases List.mem_cons.mp h' with q' | q'
     · exact absurd (by rw [← q']) (hp.1 _ q)
     · exact cT hp.2 x y c q q'
section
variable {prog : Program} {w : World} {A : Around} {s : Shared} {G : Mem} {ρ : List (Str × D)} {os : List (Addr × Kd)} {Q E : Value → Shared → Prop}
theorem enter {a : Addr} {o : Obj} {fd : FuncData} {body : List Stmt} {args : List Value} {kw : List (Str × Value)} {binds : List (Str × Value)}
 (hroom : A.depth < recursionLimit) (hin : In G s.heap) (ho : s.heap.get? a = some o) (hdata : o.data = .func fd) (hlim : s.heap.NoLimit) (hcd : s.heap.CodeRec fd.code fd.qualname)
 (hbody : fd.body = .stmts body) (hbind : BindsTo s fd ⟨args, kw⟩ binds) (hclo : fd.closure = [])
 (hkind : (binds.all fun y => fd.scope.names.lookup y.1 == some .local || fd.scope.names.lookup y.1 == some .cell) = true)
 (hnd : ((cellsFrom 0 fd.scope.names []).map (·.1)).Nodup)
 (gl : ∃ m, s.heap.Ns fd.globals m) (bu : ∃ m, s.heap.Ns fd.builtins m)
 (hos : ∀ p ∈ os, G p.1 = none ∧ p.1 ≠ fd.globals ∧ p.1 ≠ fd.builtins ∧ ∃ o, s.heap.get? p.1 = some o ∧ p.2.ok G o) (hod : (os.map (·.1)).Nodup)
 (hρ : ∀ h L, h.Ns L (bindL (callEnvC fd L a).kindOf binds fun ux => none) → (∀ n c, (callEnvC fd L a).cells.lookup n = some c → h.IsCell c (bindC (callEnvC fd L a).kindOf binds (fun ux => none) n)) → (∀ b o, s.heap.get? b = some o → h.get? b = some o) → ∀ p ∈ ρ, ∃ v, Ld h (callEnvC fd L a) p.1 v ∧ Rp G p.2 v)
 (hrun : ∀ s₁ L, Fm (os.map (·.1)) s G (callEnvC fd L a) ρ os s₁ G → wpAny (model prog w) (A.deeper (callEnvC fd L a)) (execs body (callEnvC fd L a)) (pK Q) (lH (model prog w) A (callEnvC fd L a) E) s₁)
 (hco : fd.scope.isCoroutine = false := by rfl) (hgen : fd.scope.isGenerator = false := by rfl) (hk : fd.scope.kind = .function := by rfl) :
 wpAny (model prog w) A (call (.ref a) args kw) Q E s := by
 refine wpAny_call (codeAny_call_function hroom ho hdata hco hgen hbody hcd (hbind _ _ _ _ ?_))
 erw [hclo]
 refine wpAny_newFunctionEnv_cells hk (kindsX hkind _) fun env' he s' x => ?_
 subst he
 refine ⟨hlim.keeps x.toInCall.keep, codeAny_func ?_⟩
 obtain ⟨h₁, tk, e₁, kk⟩ := x.done
 have hL : s.heap.objs.size ≤ s.heap.objs.size := Nat.le_refl _
 have fr : ∀ b, s.heap.objs.size ≤ b → s.heap.get? b = none := fun b hb => cW hb
 have nd : ((cellsFrom (s.heap.objs.size + 1) fd.scope.names []).map (·.1)).Nodup := cellsFrom_names fd.scope.names 0 (s.heap.objs.size + 1) [] [] rfl ▸ hnd
 have hf : Fm (os.map (·.1)) s G (callEnvC fd s.heap.objs.size a) ρ os s' G := by
  have k0 : ∀ b o, s.heap.get? b = some o → s'.heap.get? b = some o := x.toInCall.keep
  have ownfr : ∀ b ∈ own (callEnvC fd s.heap.objs.size a), s.heap.get? b = none := fun b hb => by
   rcases List.mem_cons.mp hb with q | q
   · erw [q]; exact fr _ (Nat.le_refl _)
   · obtain ⟨p, hp, rfl⟩ := List.mem_map.mp q
     exact fr _ (Nat.le_of_lt (x.above p.1 p.2 hp))
  have ne : ∀ {b : Addr} {m}, s.heap.Ns b m → s.heap.objs.size ≠ b := fun {b m} hb q => by
   obtain ⟨o, _, _, e, _⟩ := hb
   rw [← q, fr _ (Nat.le_refl _)] at e; cases e
  refine ⟨⟨⟨h₁, tk, e₁, fun b o ux e => kk b o e⟩, fun ux ux e => e, fun b o e => k0 _ _ (hin b o e), fun ux ux e => .inl e⟩, ⟨hk, ?_, ?_, fun b o e => k0 _ _ (hin b o e), ?_⟩, ⟨⟨_, x.toInCall.ns⟩, ai hin (fr _ (Nat.le_refl _)), ?_, ?_, hk, fun n c hm => ⟨⟨_, x.cell n c (lookup_of_mem_nodup nd hm)⟩, ai hin (fr _ (Nat.le_of_lt (x.above n c hm)))⟩, ?_⟩, fun p hp => ?_, hod, fun b hb => ?_, fun b hb => List.mem_append_right _ hb⟩
  · obtain ⟨m, n⟩ := gl; exact ⟨m, n.keeps k0⟩
  · obtain ⟨m, n⟩ := bu; exact ⟨m, n.keeps k0⟩
  · exact hρ _ _ x.toInCall.ns x.cell k0
  · obtain ⟨m, n⟩ := gl; exact ne n
  · obtain ⟨m, n⟩ := bu; exact ne n
  · exact cT x.apart
  · obtain ⟨g, n1, n2, o, e, q⟩ := hos p hp
    refine ⟨g, fun hm => ?_, o, k0 _ _ e, q⟩
    rcases List.mem_cons.mp hm with z | z
    · exact n1 z
    · rcases List.mem_cons.mp z with z | z
      · exact n2 z
      · rw [ownfr _ z] at e; cases e
  · rcases List.mem_append.mp hb with q | q
    · exact .inr (ownfr b q)
    · exact .inl q
 exact wpAny_mono (hrun s' _ hf) (fun fl s'' h => h) fun ux ux h => h
noncomputable def Ct (M : Model) (A : Around) (Gs : Mem) (f : Addr) (ds : List D) (d : D) : Prop :=
 ∀ (s : Shared) (G : Mem) (Q E : Value → Shared → Prop) (vs : List Value), In G s.heap → Le Gs G → RpL G ds vs → Out s G d Q → wpAny M A (call (.ref f) vs) Q E s
theorem cg {env : Env} {x : Str} {p pos : Pos} {Gs : Mem} {a : Addr} {o : Obj} {fd : FuncData} {e : Expr} {es : List Expr} {ds : List D} {d : D} (hf : (x, .g Gs (.ref a)) ∈ ρ) (ho : Gs a = some o) (hd : o.data = .func fd) (ha : EvL (model prog w) A env ρ (e :: es) ds) (hc : Ct (model prog w) A Gs a ds d)
 (hx : (x == ("__debug__" : Str)) = false := by decide) (hk : (env.kindOf x).isSome = true := by rfl) (he : starEach (e :: es) env = (false, eval e env) :: starEach es env := by rfl) :
 Ev (model prog w) A env ρ (.Call (.Name x p) (e :: es) [] pos) d := by
 intro s G Q E hE hQ
 obtain ⟨v, hl, hr⟩ := hE.at' _ hf
 obtain ⟨rfl, le⟩ := hr
 refine Call_Name rfl (aa hf hx hk s G _ _ hE fun f s₁ G₁ k₁ r => ?_)
 obtain ⟨rfl, le₁⟩ := r
 have key : wpAny (model prog w) A (evalArgs (.ref a) true (backTo pos (starEach (e :: es) env)) []) (fun x s₂ => ∃ G₂, Kp s₁ G₁ s₂ G₂ ∧ RpL G₂ ds x.pos ∧ x.kw = []) E s₁ := by
  have h := ha pos s₁ G₁ (fun vs s₂ => ∃ G₂, Kp s₁ G₁ s₂ G₂ ∧ RpL G₂ ds vs ∧ ([] : List (Str × Value)) = []) E (hE.go k₁) fun vs s₂ G₂ k₂ r₂ => ⟨G₂, k₂, r₂, rfl⟩
  rw [he] at h ⊢
  exact evalArgs_plain h
 refine callWith_function (o := o) (fd := fd) (wpAny_mono key (fun x s₂ h => ?_) fun ux ux h => h)
 obtain ⟨G₂, k₂, r₂, hk⟩ := h
 refine ⟨⟨k₂.sub _ _ (k₂.le _ _ (le₁ _ _ ho)), hd⟩, ?_⟩
 erw [hk]
 exact hc s₂ G₂ _ _ _ k₂.sub (fun b o e => k₂.le _ _ (le₁ b o e)) r₂ fun v s₃ G₃ k₃ r₃ => hQ v s₃ G₃ ((k₁.tr k₂).tr k₃) r₃
theorem qE {x : Str} {d : D} (h : ∀ p ∈ ρ, p.1 ≠ x) : eg x d ρ ((x, d) :: ρ) := fun p hp => by
 rcases List.mem_cons.mp hp with rfl | hp
 · exact .inl rfl
 · exact .inr ⟨hp, h p hp⟩
theorem aM {α : Type} {p : α → Prop} {a : α} {l : List α} (h : p a) (t : ∀ x ∈ l, p x) : ∀ x ∈ a :: l, p x := List.forall_mem_cons.mpr ⟨h, t⟩
theorem neB {x : Str} (h : (ρ.all fun p => !(p.1 == x)) = true := by kernel_rfl) : ∀ p ∈ ρ, p.1 ≠ x := fun p hp q => by
 have := List.all_eq_true.mp h p hp
 rw [q, beq_self_eq_true] at this
 cases this
theorem af {x : Str} {d : D} (h : (ρ.all fun p => !(p.1 == x)) = true := by kernel_rfl) : eg x d ρ ((x, d) :: ρ) := qE (neB h)
theorem f9 {x : Str} {d : D} : ∀ {l : List (Str × D)}, l.lookup x = some d → (x, d) ∈ l
 | [], h => by cases h
 | (y, e) :: l, h => by
   rw [List.lookup_cons] at h
   cases q : x == y with
   | true => rw [q] at h; cases h; erw [eq_of_beq q]; exact .head _
   | false => rw [q] at h; exact .tail _ (f9 h)
theorem eS {ρ' : List (Str × D)} (h : ρ'.map (fun p => ρ.lookup p.1) = ρ'.map fun p => some p.2 := by kernel_rfl) : ∀ p ∈ ρ', p ∈ ρ := fun p hp => f9 (List.map_inj_left.mp h p hp)
theorem aU {ρ' : List (Str × D)} {x : Str} {d : D} (h : ρ'.map (fun p => if p.1 == x then some d else ρ.lookup p.1) = ρ'.map fun p => some p.2 := by kernel_rfl) : eg x d ρ ρ' := fun p hp => by
 have h := List.map_inj_left.mp h p hp
 obtain ⟨y, e⟩ := p
 dsimp only at h
 cases q : y == x with
 | true =>
   rw [q, if_pos rfl] at h
   cases h
   exact .inl (by erw [eq_of_beq q])
 | false =>
   rw [q, if_neg (by decide)] at h
   exact .inr ⟨f9 h, fun e => by rw [show y = x from e, beq_self_eq_true] at q; cases q⟩
inductive Cap (env env' : Env) (x : Str) : Prop
 | c (c : Addr) (h1 : env.kindOf x = some .cell) (h2 : env.cells.lookup x = some c) (h3 : env'.kindOf x = some .cell) (h4 : env'.cells.lookup x = some c)
 | f (c : Addr) (h1 : env.kindOf x = some .cell) (h2 : env.cells.lookup x = some c) (h3 : env'.kindOf x = some .free) (h4 : env'.cells.lookup x = some c) (h5 : (x == ("__classdict__" : Str)) = false)
 | ff (c : Addr) (h1 : env.kindOf x = some .free) (h2 : env.cells.lookup x = some c) (h3 : env'.kindOf x = some .free) (h4 : env'.cells.lookup x = some c)
 | g (h1 : env.kindOf x = some .globalImplicit ∨ env.kindOf x = none) (h2 : env'.kindOf x = some .globalImplicit) (hg : env'.globals = env.globals) (hb : env'.builtins = env.builtins)
theorem Ld.cap {h : Heap} {env env' : Env} {x : Str} {v : Value} (l : Ld h env x v) (c : Cap env env' x) : Ld h env' x v := by
 cases c with
 | c c h1 h2 h3 h4 => cases l with
   | cel a b r => rw [h2] at b; cases b; exact .cel h3 h4 r
   | loc a => rw [h1] at a; cases a
   | fre a => rw [h1] at a; cases a
   | glo a => rw [h1] at a; cases a
   | bui a => rw [h1] at a; cases a
   | glN a => rw [h1] at a; cases a
   | buN a => rw [h1] at a; cases a
 | f c h1 h2 h3 h4 h5 => cases l with
   | cel a b r => rw [h2] at b; cases b; exact .fre h3 h4 r h5
   | loc a => rw [h1] at a; cases a
   | fre a => rw [h1] at a; cases a
   | glo a => rw [h1] at a; cases a
   | bui a => rw [h1] at a; cases a
   | glN a => rw [h1] at a; cases a
   | buN a => rw [h1] at a; cases a
 | ff c h1 h2 h3 h4 => cases l with
   | fre a b r n => rw [h2] at b; cases b; exact .fre h3 h4 r n
   | loc a => rw [h1] at a; cases a
   | cel a => rw [h1] at a; cases a
   | glo a => rw [h1] at a; cases a
   | bui a => rw [h1] at a; cases a
   | glN a => rw [h1] at a; cases a
   | buN a => rw [h1] at a; cases a
 | g h1 h2 hg hb => cases l with
   | glo a b r => exact .glo h2 (hg ▸ b) r
   | bui a b r d e => exact .bui h2 (hg ▸ b) r (hb ▸ d) e
   | glN a b r => exact .glo h2 (hg ▸ b) r
   | buN a b r d e => exact .bui h2 (hg ▸ b) r (hb ▸ d) e
   | loc a => rcases h1 with h1 | h1 <;> rw [h1] at a <;> cases a
   | fre a => rcases h1 with h1 | h1 <;> rw [h1] at a <;> cases a
   | cel a => rcases h1 with h1 | h1 <;> rw [h1] at a <;> cases a
theorem aV {env env' : Env} {ρ ρc : List (Str × D)} {h : Heap} {G : Mem} (hE : En h G env ρ) (hfn : env'.scope.kind = .function) (hg : env'.globals = env.globals) (hb : env'.builtins = env.builtins) (hc : ∀ p ∈ ρc, p ∈ ρ ∧ Cap env env' p.1) : En h G env' ρc :=
 ⟨hfn, hg ▸ hE.gl, hb ▸ hE.bu, hE.sub, fun p hp => let ⟨v, l, r⟩ := hE.at' p (hc p hp).1; ⟨v, l.cap (hc p hp).2, r⟩⟩
noncomputable def capK (a b : Option NameKind) (c d : Bool) : Bool :=
 a == some .cell && b == some .cell && c || a == some .cell && b == some .free && (c && d) || a == some .free && b == some .free && c || a == some .globalImplicit && b == some .globalImplicit || a == none && b == some .globalImplicit
theorem cv {env env' : Env} {ρ' : List (Str × D)} (h : ρ'.map (fun p => (ρ.lookup p.1, capK (env.kindOf p.1) (env'.kindOf p.1) (env.cells.lookup p.1).isSome (!(p.1 == ("__classdict__" : Str))), env.cells.lookup p.1)) = ρ'.map fun p => (some p.2, true, env'.cells.lookup p.1) := by kernel_rfl) (hg : env'.globals = env.globals := by rfl) (hb : env'.builtins = env.builtins := by rfl) : ∀ p ∈ ρ', p ∈ ρ ∧ Cap env env' p.1 := fun p hp => by
 have h := List.map_inj_left.mp h p hp
 have h1 := congrArg (·.1) h
 have h2 := congrArg (·.2.1) h
 have h3 := congrArg (·.2.2) h
 dsimp only at h1 h2 h3
 refine ⟨f9 h1, ?_⟩
 simp only [capK, Bool.or_eq_true, Bool.and_eq_true, beq_iff_eq] at h2
 rcases h2 with (((⟨⟨a, b⟩, h2⟩ | ⟨⟨a, b⟩, h2, h4⟩) | ⟨⟨a, b⟩, h2⟩) | ⟨a, b⟩) | ⟨a, b⟩
 · have ⟨c, e⟩ := Option.isSome_iff_exists.mp h2
   exact .c c a e b (h3 ▸ e)
 · have ⟨c, e⟩ := Option.isSome_iff_exists.mp h2
   exact .f c a e b (h3 ▸ e) (by revert h4; cases (p.1 == ("__classdict__" : Str)) <;> simp)
 · have ⟨c, e⟩ := Option.isSome_iff_exists.mp h2
   exact .ff c a e b (h3 ▸ e)
 · exact .g (.inl a) b hg hb
 · exact .g (.inr a) b hg hb
theorem cmp_ge {a b : Int} : Cmp (model prog w) A .GtE (.i a) (.i b) (.b (decide (a ≥ b))) := by
 rintro s G Q E _ _ hG ⟨t, rfl⟩ ⟨u, rfl⟩ hQ
 exact P.ge_int (hQ _ _ _ (Kp.rf hG) rfl)
theorem gu {a b : Int} : Cmp (model prog w) A .Gt (.i a) (.i b) (.b (decide (a > b))) := by
 rintro s G Q E _ _ hG ⟨t, rfl⟩ ⟨u, rfl⟩ hQ
 exact P.gt_int (hQ _ _ _ (Kp.rf hG) rfl)
theorem cmp_le {a b : Int} : Cmp (model prog w) A .LtE (.i a) (.i b) (.b (decide (a ≤ b))) := by
 rintro s G Q E _ _ hG ⟨t, rfl⟩ ⟨u, rfl⟩ hQ
 exact P.le_int (hQ _ _ _ (Kp.rf hG) rfl)
end
theorem hJ {a b : Int} {d : D} (h : d ∈ rng a b) : ∃ k, a ≤ k ∧ k < b ∧ d = .i k := by
 unfold rng at h
 obtain ⟨i, hi, rfl⟩ := List.mem_map.mp h
 rw [List.mem_range] at hi
 exact ⟨a + i, by lia, by lia, rfl⟩
theorem gN {a b : Int} (h : b.natAbs.log2 < 8000) : Builtin.divisionGoesByPylong a b = false := by
 unfold Builtin.divisionGoesByPylong
 simp only [Bool.and_eq_false_iff, decide_eq_false_iff_not]
 left
 by_cases hb : (b == 0) = true
 · erw [if_pos hb]; lia
 · erw [if_neg hb]; lia
theorem ck {a b : Int} (h : 0 ≤ b) : a.fdiv b = a / b := Int.fdiv_eq_ediv_of_nonneg a h
theorem bv {a b : Int} (h : 0 ≤ b) : a.fmod b = a % b := Int.fmod_eq_emod_of_nonneg a h
theorem al {h : Heap} {L : Addr} {env : Env} {m : Str → Option Value} {x : Str} {v : Value} {d : D} {G : Mem} (hn : h.Ns L m) (hk : env.kindOf x = some .local) (hL : env.locals = L) (hm : m x = some v) (hr : Rp G d v) : ∃ v, Ld h env x v ∧ Rp G d v := ⟨v, .loc hk (hL ▸ hn) hm, hr⟩
theorem dA {h : Heap} {env : Env} {m : Str → Option Value} {x : Str} {c : Addr} {v : Value} {d : D} {G : Mem} (hn : ∀ n c, env.cells.lookup n = some c → h.IsCell c (m n)) (hk : env.kindOf x = some .cell) (hc : env.cells.lookup x = some c) (hm : m x = some v) (hr : Rp G d v) : ∃ v, Ld h env x v ∧ Rp G d v := ⟨v, .cel hk hc (hm ▸ hn x c hc), hr⟩
theorem bi {h g : Heap} {env : Env} {mg : Str → Option Value} {x : Str} {v : Value} {G : Mem} (hn : h.Ns mainGlobals mg) (hk : env.kindOf x = some .globalImplicit) (hg : env.globals = mainGlobals) (hm : mg x = some v) (hle : Le g.get? G) : ∃ u, Ld h env x u ∧ Rp G (.g g.get? v) u := ⟨v, .glo hk (hg ▸ hn) hm, rfl, hle⟩
theorem lI {h g : Heap} {env : Env} {mg : Str → Option Value} {x : Str} {v : Value} {G : Mem} (hn : h.Ns mainGlobals mg) (hk : env.kindOf x = none) (hg : env.globals = mainGlobals) (hm : mg x = some v) (hle : Le g.get? G) : ∃ u, Ld h env x u ∧ Rp G (.g g.get? v) u := ⟨v, .glN hk (hg ▸ hn) hm, rfl, hle⟩
theorem dH {h : Heap} {env : Env} {mg mb : Str → Option Value} {x : Str} {v : Value} {G : Mem} (hn : h.Ns mainGlobals mg) (hb : h.Ns builtinsNs mb) (hk : env.kindOf x = none) (hg : env.globals = mainGlobals) (hbu : env.builtins = builtinsNs) (hm : mg x = none) (hv : mb x = some v) : ∃ u, Ld h env x u ∧ Rp G (.v v) u := ⟨v, .buN hk (hg ▸ hn) hm (hbu ▸ hb) hv, rfl⟩
theorem aB {h : Heap} {env : Env} {mg mb : Str → Option Value} {x : Str} {v : Value} {G : Mem} (hn : h.Ns mainGlobals mg) (hb : h.Ns builtinsNs mb) (hk : env.kindOf x = some .globalImplicit) (hg : env.globals = mainGlobals) (hbu : env.builtins = builtinsNs) (hm : mg x = none) (hv : mb x = some v) : ∃ u, Ld h env x u ∧ Rp G (.v v) u := ⟨v, .bui hk (hg ▸ hn) hm (hbu ▸ hb) hv, rfl⟩
set_option tactic.hygienic false
section
variable {prog : Program} {w : World} {A : Around} {s : Shared} {G : Mem} {ρ : List (Str × D)} {os : List (Addr × Kd)} {Q E : Value → Shared → Prop} {K : Frag} {g : Heap} {p : Program} {loose : List Str} {mean : ExcName → Option Value} {mg mb : Str → Option Value}
theorem bo {a : Addr} {oc : Value} {od : Option Addr} {osl : Array (Option Value)} {fd : FuncData} {body : List Stmt} {args : List Value} {kw : List (Str × Value)} {binds : List (Str × Value)}
 (X : K.In g) (T : Top p loose mean mg mb g) (hroom : A.depth < recursionLimit) (hin : In G s.heap) (hle : Le g.get? G) (ho : K.lookup a = some ⟨oc, od, .func fd, osl⟩) (hcd : codeIn K fd.code fd.qualname = true)
 (hbody : fd.body = .stmts body) (hbind : BindsTo s fd ⟨args, kw⟩ binds) (hclo : fd.closure = [])
 (hkind : (binds.all fun y => fd.scope.names.lookup y.1 == some .local || fd.scope.names.lookup y.1 == some .cell) = true)
 (hnd : ((cellsFrom 0 fd.scope.names []).map (·.1)).Nodup)
 (gl : fd.globals = mainGlobals) (bu : fd.builtins = builtinsNs)
 (hos : ∀ p ∈ os, G p.1 = none ∧ ∃ o, s.heap.get? p.1 = some o ∧ p.2.ok G o) (hod : (os.map (·.1)).Nodup)
 (hρ : ∀ h L, h.Ns L (bindL (callEnvC fd L a).kindOf binds fun ux => none) → (∀ n c, (callEnvC fd L a).cells.lookup n = some c → h.IsCell c (bindC (callEnvC fd L a).kindOf binds (fun ux => none) n)) → h.Ns mainGlobals mg → h.Ns builtinsNs mb → ∀ p ∈ ρ, ∃ v, Ld h (callEnvC fd L a) p.1 v ∧ Rp G p.2 v)
 (hrun : ∀ s₁ L, Fm (os.map (·.1)) s G (callEnvC fd L a) ρ os s₁ G → wpAny (model prog w) (A.deeper (callEnvC fd L a)) (execs body (callEnvC fd L a)) (pK Q) (lH (model prog w) A (callEnvC fd L a) E) s₁)
 (hco : fd.scope.isCoroutine = false) (hgen : fd.scope.isGenerator = false) (hk : fd.scope.kind = .function) :
 wpAny (model prog w) A (call (.ref a) args kw) Q E s := by
 have up : ∀ b o, g.get? b = some o → s.heap.get? b = some o := fun b o e => hin b o (hle b o e)
 have ng : ∀ {b : Addr}, G b = none → ∀ {c : Addr} {m}, g.Ns c m → b ≠ c := fun {b} hb {c m} hc q => by
  obtain ⟨o, _, _, e, _⟩ := hc
  rw [q, hle _ _ e] at hb; cases hb
 refine enter hroom hin (up _ _ (X _ _ ho)) rfl (T.nolimit.keeps up) ((codeRec_of X hcd).keeps up) hbody hbind hclo hkind hnd (gl ▸ ⟨mg, T.g.keeps up⟩) (bu ▸ ⟨mb, T.b.keeps up⟩) (fun p hp => ?_) hod (fun h L hn hc hk => hρ h L hn hc ((T.g.keeps up).keeps hk) ((T.b.keeps up).keeps hk)) hrun hco hgen hk
 obtain ⟨g0, r⟩ := hos p hp
 exact ⟨g0, gl ▸ ng g0 T.g, bu ▸ ng g0 T.b, r⟩
end
noncomputable def i0 (n wide : Int) : List Int := (([5, 4, 3, 2, 1] : List Int).filter fun k => (wide == 1) || decide (n ≥ 64 ^ k.toNat)).map (fun k => n / 64 ^ k.toNat % 64 + 64) ++ [n % 64]
noncomputable def cK (n wide : Int) : List Int := match i0 n wide with
 | [] => []
 | d :: r => (d + 128) :: r
noncomputable def pb (n : Int) : D → D
 | .i k => .i (n / 64 ^ k.toNat % 64 + 64)
 | d => d
noncomputable def digP (n wide : Int) : D → Bool
 | .i k => (wide == 1) || decide (n ≥ 64 ^ k.toNat)
 | _ => false
theorem mD (n wide : Int) : (([.i 5, .i 4, .i 3, .i 2, .i 1] : List D).filter (digP n wide)).map (pb n) ++ [.i (n % 64)] = (i0 n wide).map .i := by
 have e : ([.i 5, .i 4, .i 3, .i 2, .i 1] : List D) = ([5, 4, 3, 2, 1] : List Int).map .i := rfl
 erw [e, List.filter_map, List.map_map]
 unfold i0
 erw [List.map_append, List.map_map]
 rfl
theorem digs_ne (n wide : Int) : ∃ d r, i0 n wide = d :: r := by
 unfold i0
 cases h : ((([5, 4, 3, 2, 1] : List Int).filter fun k => (wide == 1) || decide (n ≥ 64 ^ k.toNat)).map (fun k => n / 64 ^ k.toNat % 64 + 64)) with
 | nil => exact ⟨_, _, rfl⟩
 | cons d r => exact ⟨_, _, rfl⟩
theorem pO (n wide : Int) : (i0 n wide).length ≤ 6 := by
 unfold i0
 erw [List.length_append, List.length_map]
 have := List.length_filter_le (fun k : Int => (wide == 1) || decide (n ≥ 64 ^ k.toNat)) [5, 4, 3, 2, 1]
 simp at this ⊢
 lia
set_option maxRecDepth 100000 in
set_option maxHeartbeats 4000000 in
theorem oK {w : World} {A : Around} {g : Heap} {p : Program} {loose : List Str} {mean : ExcName → Option Value} {mg mb : Str → Option Value} (X : (hd.heap_39 w.params).In g) (T : Top p loose mean mg mb g) (n wide : Int) (hA : A.handled = none) (hroom : A.depth < recursionLimit) :
 Ct (model Challenge.rw_wb0032_01.row.prog w) A g.get? 68 [.i n, .i wide] (.l ((cK n wide).map .i)) := by
 intro s G Q E vs hin hle hvs hQ
 refine k_ii (Z := fun vs => wpAny _ _ (call _ vs _) _ _ _) hvs fun t₁ t₂ => ?_
 revert X
 k_fill
 intro X
 k_dflt (refine' bo (os := []) (ρ := [(Str.ofString "number", .i n), (Str.ofString "wide", .i wide)]) X T hroom hin hle ?ho ?hcd ?hbody ?hbind ?hclo ?hkind ?hnd ?gl ?bu ?hos ?hod ?hρ ?hrun ?hco ?hgen ?hk; ((case ho | hcd => k_is); (case hnd => decide +kernel); (case hbody | hclo | gl | bu | hco | hgen | hk => exact rfl)); (case hbind => exact BindsTo.of_eq rfl); (case hkind => exact rfl); (case hos => exact List.forall_mem_nil _); (case hod => exact List.nodup_nil))
 case hρ =>
  intro h L hn hc hg hb
  repeat' first | exact List.forall_mem_nil _ | with_reducible refine aM ?_ ?_
  · exact dA hc rfl rfl rfl ⟨_, rfl⟩
  · exact dA hc rfl rfl rfl ⟨_, rfl⟩
 case hrun =>
  intro s₁ L f₁
  refine cp fun E' => ?_
  have xs5 : ∀ {P : D → Prop}, P (.i 5) → P (.i 4) → P (.i 3) → P (.i 2) → P (.i 1) → ∀ d ∈ ([.i 5, .i 4, .i 3, .i 2, .i 1] : List D), P d := by
   intro P a b c d e x hx
   simp only [List.mem_cons, List.not_mem_nil, or_false] at hx
   rcases hx with rfl | rfl | rfl | rfl | rfl <;> assumption
  have hl := pO n wide
  obtain ⟨d0, ds, e0⟩ := digs_ne n wide
  have hsz : ((([.i 5, .i 4, .i 3, .i 2, .i 1] : List D).filter (digP n wide)).map (pb n)).length + 1 ≤ 1000000 := by
   have := congrArg List.length (mD n wide)
   simp only [List.length_append, List.length_singleton, List.length_map] at this ⊢
   lia
  refine ao (d := .l ((i0 n wide).map .i)) f₁ (ah (ag (bj (pb n) (digP n wide) [(Str.ofString "number", .i n), (Str.ofString "wide", .i wide)] (fun d => [(Str.ofString "k", d), (Str.ofString "number", .i n), (Str.ofString "wide", .i wide)])
   (lm (xs := [.i 5, .i 4, .i 3, .i 2, .i 1]) hA (bp (ab ad (ab ad (ab ad (ab ad (ab ad ae))))) (by decide))) rfl (by decide +kernel) rfl (by decide +kernel) ?hcap ?has ?ht ?he (by decide)) (bc (ab (ag (aa m0) ad (ci hA (by decide))) ae) ?hs1) (bE hsz)) ?hcv) ar af fun s₂ G₂ f₂ => ?_
  case hcap => exact fun C h G hE => aV hE rfl rfl rfl cv
  case has => exact fun C d hd => ax rfl af
  case ht =>
   refine fun C => xs5 ?_ ?_ ?_ ?_ ?_ <;>
   exact dO (aX (pG (aj (aa m2) ad eA) fun ux => pG (aj (aa m1) (ag ad (aa m0) (ik (by decide) (by decide))) cmp_ge) fun ux => tst_or0) (by simp only [digP, Bool.or_false]))
  case he =>
   refine fun C d hd ux => xs5 (P := fun d => Ev _ _ _ [(Str.ofString "k", d), (Str.ofString "number", .i n), (Str.ofString "wide", .i wide)] _ (pb n d)) ?_ ?_ ?_ ?_ ?_ d hd <;>
   exact ah (ag (ag (ag (aa m1) (ag ad (aa m0) (ik (by decide) (by decide))) (dI hA (by decide) (gN (by decide)))) ad (ci hA (by decide))) ad bA) (by simp only [pb]; erw [ck (by decide), bv (by decide)])
  case hs1 => exact (by decide : (1 : Nat) ≤ 1000000)
  case hcv => erw [bv (by decide), mD]
  refine bJ (d := .l ((cK n wide).map .i)) f₂ (ah (ag (bc (ab (ag (aF (k := 0) (d := .i d0) (aa m0) ad (by decide) (by decide) ?hx) ad bA) ae) ?hs1) (c7 (hs := ⟨_, fun ux ux => by with_unfolding_all rfl⟩) (lo := some 1) (hi := none) (st := none) (aa m0) ad trivial trivial (by decide) ?hs2) (bE ?hs3)) ?hcv) fun v s₃ G₃ f₃ r => hQ v s₃ G₃ f₃.kp r
  case hx => erw [e0]; rfl
  case hs1 => exact (by decide : (1 : Nat) ≤ 1000000)
  case hs2 => erw [List.length_map]; lia
  case hs3 =>
   erw [gq _ (by decide) (by erw [List.length_map, e0, List.length_cons]; lia)]
   simp only [List.length_drop, List.length_map, List.length_singleton]
   lia
  case hcv =>
   erw [gq _ (by decide) (by erw [List.length_map, e0, List.length_cons]; lia), e0]
   unfold cK
   erw [e0]
   rfl
set_option tactic.hygienic false
theorem dj {prog : Program} {w : World} {A : Around} {target : Expr} {env : Env} {ρ : List (Str × D)} {e : Expr} {xs ys : List D} (h : It prog w A target env ρ e xs) (q : xs = ys) : It prog w A target env ρ e ys := q ▸ h
noncomputable def iz (c : Int) (t : Int) : Int := c / max t 1
noncomputable def oM (c : Int) (t : Int) : Int := c % max t 1
noncomputable def part (c : Int) (t : Int) : D := .t [.i (oM c t), .i (iz c t % 5 - 2), .i (iz c t / 5 % 2 + 1)]
noncomputable def partF : D → D
 | .t [.i t, .i c] => .i (iz c t)
 | d => d
noncomputable def qy (cs : List Int) : D → D
 | .t [.i t, .i r] => .t [.i (oM (cs.getD t.toNat 0) t), .i (r % 5 - 2), .i (r / 5 % 2 + 1)]
 | d => d
set_option maxRecDepth 100000 in
set_option maxHeartbeats 4000000 in
theorem qh {w : World} {A : Around} {g : Heap} {p : Program} {loose : List Str} {mean : ExcName → Option Value} {mg mb : Str → Option Value} (X : (hd.heap_39 w.params).In g) (T : Top p loose mean mg mb g) (c0 c1 c2 c3 c4 c5 c6 : Int) (hA : A.handled = none) (hroom : A.depth < recursionLimit) :
 Ct (model Challenge.rw_wb0032_01.row.prog w) A g.get? 80 [.l [.i c0, .i c1, .i c2, .i c3, .i c4, .i c5, .i c6]] (.l [part c0 0, part c1 1, part c2 2, part c3 3, part c4 4, part c5 5]) := by
 intro s G Q E vs hin hle hvs hQ
 refine k_r (Z := fun vs => wpAny _ _ (call _ vs _) _ _ _) hvs fun v₁ r₁ => ?_
 revert X
 k_fill
 intro X
 k_dflt (refine' bo (os := []) (ρ := [(Str.ofString "cells", .l [.i c0, .i c1, .i c2, .i c3, .i c4, .i c5, .i c6]), (Str.ofString "enumerate", .v (.type "enumerate")), (Str.ofString "max", .v (.builtin "max"))]) X T hroom hin hle ?ho ?hcd ?hbody ?hbind ?hclo ?hkind ?hnd ?gl ?bu ?hos ?hod ?hρ ?hrun ?hco ?hgen ?hk; ((case ho | hcd => k_is); (case hnd => decide +kernel); (case hbody | hclo | gl | bu | hco | hgen | hk => exact rfl)); (case hbind => exact BindsTo.of_eq rfl); (case hkind => exact rfl); (case hos => exact List.forall_mem_nil _); (case hod => exact List.nodup_nil))
 case hρ =>
  intro h L hn hc hg hb
  repeat' first | exact List.forall_mem_nil _ | with_reducible refine aM ?_ ?_
  · exact dA hc rfl rfl rfl r₁
  · exact aB hg hb rfl rfl rfl (mg_none_of X T.g (by k_is)) ((T.builtins _ (by decide)).trans (by decide +kernel))
  · exact dH hg hb rfl rfl rfl (mg_none_of X T.g (by k_is)) ((T.builtins _ (by decide)).trans (by decide +kernel))
 case hrun =>
  intro s₁ L f₁
  refine cp fun E' => ?_
  have six : ∀ {P : D → Prop} {e0 e1 e2 e3 e4 e5 : D}, P e0 → P e1 → P e2 → P e3 → P e4 → P e5 → ∀ d ∈ [e0, e1, e2, e3, e4, e5], P d := by
   intro P e0 e1 e2 e3 e4 e5 h0 h1 h2 h3 h4 h5 x hx
   simp only [List.mem_cons, List.not_mem_nil, or_false] at hx
   rcases hx with rfl | rfl | rfl | rfl | rfl | rfl <;> assumption
  refine dp partF (fun ux => true) [(Str.ofString "max", .v (.builtin "max"))] (fun d => match d with | .t [a, b] => [(Str.ofString "number", b), (Str.ofString "turn", a), (Str.ofString "max", .v (.builtin "max"))] | _ => []) f₁
   (dj (ys := [.t [.i 0, .i c0], .t [.i 1, .i c1], .t [.i 2, .i c2], .t [.i 3, .i c3], .t [.i 4, .i c4], .t [.i 5, .i c5]]) (aH m1 (ab (c7 (hs := ⟨_, fun ux ux => by with_unfolding_all rfl⟩) (lo := none) (hi := some 6) (st := none) (aa m0) trivial ad trivial (by decide) (Nat.le_of_ble_eq_true rfl)) ae) (dU hA)) ?hcv) rfl (by decide +kernel) rfl (by decide +kernel) ?hcap ?has ?ht ?he (Nat.le_of_ble_eq_true rfl) ar af fun s₂ G₂ f₂ => ?_
  case hcv => erw [gA _ (by decide)]; rfl
  case hcap => exact fun C h G hE => aV hE rfl rfl rfl cv
  case has =>
   refine fun C => six ?_ ?_ ?_ ?_ ?_ ?_ <;> exact bN hA (ax rfl af) (ax rfl af)
  case ht => exact fun C d ux => bD
  case he =>
   refine fun C d hd ux => six (P := fun d => Ev _ _ _ (match d with | .t [a, b] => [(Str.ofString "number", b), (Str.ofString "turn", a), (Str.ofString "max", .v (.builtin "max"))] | _ => []) _ (partF d)) ?_ ?_ ?_ ?_ ?_ ?_ d hd <;>
   exact ah (ag (aa m0) (aK m2 (ab (aa m1) (ab ad ae)) (ml hA)) (dI hA (by decide) (gN (by decide)))) (by show D.i _ = D.i (_ / _); erw [ck (by decide)])
  refine bJ (d := .l [part c0 0, part c1 1, part c2 2, part c3 3, part c4 4, part c5 5]) f₂ (ah (bj (qy [c0, c1, c2, c3, c4, c5, c6]) (fun ux => true) [(Str.ofString "cells", .l [.i c0, .i c1, .i c2, .i c3, .i c4, .i c5, .i c6]), (Str.ofString "max", .v (.builtin "max"))] (fun d => match d with | .t [a, b] => [(Str.ofString "rest", b), (Str.ofString "turn", a), (Str.ofString "cells", .l [.i c0, .i c1, .i c2, .i c3, .i c4, .i c5, .i c6]), (Str.ofString "max", .v (.builtin "max"))] | _ => [])
   (dj (ys := [.t [.i 0, .i (iz c0 0)], .t [.i 1, .i (iz c1 1)], .t [.i 2, .i (iz c2 2)], .t [.i 3, .i (iz c3 3)], .t [.i 4, .i (iz c4 4)], .t [.i 5, .i (iz c5 5)]]) (aH m2 (ab (aa m0) ae) (dU hA)) rfl) rfl (by decide +kernel) rfl (by decide +kernel) ?hcap ?has ?ht ?he (Nat.le_of_ble_eq_true rfl)) ?hcv) fun v s₃ G₃ f₃ r => hQ v s₃ G₃ f₃.kp r
  case hcap => exact fun C h G hE => aV hE rfl rfl rfl cv
  case has =>
   refine fun C => six ?_ ?_ ?_ ?_ ?_ ?_ <;> exact bN hA (ax rfl af) (ax rfl af)
  case ht => exact fun C d ux => bD
  case he =>
   refine fun C d hd ux => six (P := fun d => Ev _ _ _ (match d with | .t [a, b] => [(Str.ofString "rest", b), (Str.ofString "turn", a), (Str.ofString "cells", .l [.i c0, .i c1, .i c2, .i c3, .i c4, .i c5, .i c6]), (Str.ofString "max", .v (.builtin "max"))] | _ => []) _ (qy [c0, c1, c2, c3, c4, c5, c6] d)) ?_ ?_ ?_ ?_ ?_ ?_ d hd <;>
   exact ah (bp (ab (ag (aF (aa m2) (aa m1) (by decide) (by decide) rfl) (aK m3 (ab (aa m1) (ab ad ae)) (ml hA)) (ci hA (by decide))) (ab (ag (ag (aa m0) ad (ci hA (by decide))) ad bL) (ab (ag (ag (ag (aa m0) ad (dI hA (by decide) (gN (by decide)))) ad (ci hA (by decide))) ad bA) ae))) (Nat.le_of_ble_eq_true rfl)) (by simp only [qy, oM]; erw [bv (by decide), bv (by decide), bv (by decide), ck (by decide)]; rfl)
  case hcv => rfl
set_option tactic.hygienic false
section
variable {prog : Program} {w : World} {A : Around} {wr : List Addr} {s₀ s s' : Shared} {G₀ G G' : Mem} {env : Env} {ρ ρ' ρ₁ : List (Str × D)} {os os' : List (Addr × Kd)} {rest : List Stmt} {Q : Flow → Shared → Prop} {E : Value → Shared → Prop}
theorem cQ {es : List Expr} {pos : Pos} {ds : List D} {Q : Value → Shared → Prop} (f : Fm wr s₀ G₀ env ρ os s G) (ha : EvL (model prog w) A env ρ es ds) (hsz : ds.length ≤ 1000000)
 (h : ∀ s' G' a, Fm wr s₀ G₀ env ρ ((a, .l ds) :: os) s' G' → a ∉ wr → Q (.ref a) s') : wpAny (model prog w) A (eval (.List es pos) env) Q E s := by
 refine List_ (ha pos s G _ _ f.E fun vs s₁ G₁ k₁ r => ?_)
 have e : vs.length ≤ sizeLine := by erw [r.length]; erw [sizeLine_eq]; lia
 refine wpAny_newObj_type ?_ (by show vs.toArray.size ≤ sizeLine; erw [List.size_toArray]; exact e)
 have f₁ := f.go k₁
 have fr := aq s₁.heap
 exact h _ G₁ _ (f₁.take' (iK k₁.sub { cls := .type "list", data := .seq vs.toArray } s₁.toks) fr (ai k₁.sub fr) (Heap.get?_push_size _ rfl) ⟨vs.toArray, 0, rfl, r⟩) (f₁.notin fr)
theorem kG {elt target iter : Expr} {ifs : List Expr} {scope : Scope} {pos : Pos} {xs : List D} {cl : List (Str × Addr)} {Q : Value → Shared → Prop} (g : D → D) (p : D → Bool) (ρc : List (Str × D)) (ρi : D → List (Str × D))
 (f : Fm wr s₀ G₀ env ρ os s G) (hit : It prog w A target env ρ iter xs) (hclos : closureFor scope env = pure cl) (hcell : ∀ y ∈ scope.names, y.2 ≠ .cell) (hkind : scope.kind = .function)
 (hnames : ∀ y ∈ scope.names, y.2 = .local → scope.names.lookup y.1 = some .local)
 (hcap : ∀ C h G, En h G env ρ → En h G (compEnvC scope cl C env) ρc)
 (has : ∀ C d, d ∈ xs → As (model prog w) A target d (compEnvC scope cl C env) ρc (ρi d))
 (ht : ∀ C d, d ∈ xs → Ts (model prog w) A (compEnvC scope cl C env) (ρi d) ifs (p d))
 (he : ∀ C d, d ∈ xs → p d = true → Ev (model prog w) A (compEnvC scope cl C env) (ρi d) elt (g d))
 (hsz : xs.length ≤ 1000000)
 (h : ∀ s' G' a, Fm wr s₀ G₀ env ρ ((a, .l ((xs.filter p).map g)) :: os) s' G' → a ∉ wr → Q (.ref a) s')
 (hs : ∀ x, foldedSetIterable iter env x = pure x := by intro _; rfl) :
 wpAny (model prog w) A (eval (.ListComp elt [⟨target, iter, ifs, 0⟩] scope pos) env) Q E s := by
 erw [eval_ListComp]
 refine wpAny_comprehension_free (use := none) rfl hs hclos hkind hnames (hit s G _ _ f.E fun I wr St s₂ G₂ k₂ hwr W hst => ?_)
 refine gy (RR := fun acc C => compPost (model prog w) A E none Q acc C) hcell hkind hcap has ht he hsz f.E k₂ hwr W hst ?_
 intro s' G' Da C ys n K hCD fD fC gD gC hoC eD ry hns
 obtain ⟨m, hm⟩ := hns
 refine ⟨m, hm, fun h' hs' => ?_⟩
 have k₂ : KpB [C] s' G' { s' with heap := h' } G' := KpB.same (t := s'.toks) K.sub hs' gC
 have K₂ : Kp s G { s' with heap := h' } G' := KpB.kp K k₂ fun b hb => by erw [List.mem_singleton.mp hb]; exact fC
 have eD' : h'.get? Da = some { cls := .type "list", data := .seq ys n } := hs'.extBut _ _ hCD eD
 exact h _ G' Da (f.take' K₂ fD gD eD' ⟨ys, n, rfl, ry⟩) (f.notin fD)
theorem RpL.set {G : Mem} : ∀ {ds : List D} {vs : List Value} (r : RpL G ds vs) (k : Nat) {d : D} {v : Value}, Rp G d v → RpL G (ds.set k d) (vs.set k v)
 | [], _, r, k, d, v, _ => by have r : _ = [] := r; subst r; simp [RpL]
 | x :: ds, _, ⟨y, r, e, rx, rr⟩, 0, d, v, h => by subst e; exact ⟨v, r, rfl, h, rr⟩
 | x :: ds, _, ⟨y, r, e, rx, rr⟩, k + 1, d, v, h => by subst e; exact ⟨y, _, rfl, rx, RpL.set rr k h⟩
theorem l7 {o i value : Expr} {tpos pos : Pos} {op : Operator} {a : Addr} {ds : List D} {k : Int} {d db d' : D} (f : Fm wr s₀ G₀ env ρ ((a, .l ds) :: os) s G) (hx : Ev (model prog w) A env ρ o (.v (.ref a))) (hi : Ev (model prog w) A env ρ i (.i k)) (h0 : 0 ≤ k) (hk : k < 2 ^ 63)
 (hd : ds[k.toNat]? = some d) (hv : Ev (model prog w) A env ρ value db) (ho : jy (model prog w) A op d db d')
 (h : ∀ s' G', Fm wr s₀ G₀ env ρ ((a, .l (ds.set k.toNat d')) :: os) s' G' → wpAny (model prog w) A (execs rest env) Q E s')
 (ha : ∀ ov iv new, augStore i ov iv new = (do holding [new, ov, iv] (setItem ov iv new); release [new, ov, iv] []; pure .next) := by intro _ _ _; rfl) :
 wpAny (model prog w) A (execs (.AugAssign (.Subscript o i tpos) op value pos :: rest) env) Q E s := by
 refine wpAny_execs_cons (wpAny_AugAssign_SubscriptAny (hx s G _ _ f.E fun ov s₁ G₁ k₁ r₁ => hi s₁ G₁ _ _ (f.go k₁).E fun iv s₂ G₂ k₂ r₂ => ?_) ha)
 have r₁ : ov = .ref a := r₁
 subst r₁
 obtain ⟨t, rfl⟩ := r₂
 have f₂ := (f.go k₁).go k₂
 obtain ⟨g, na, ob, e, vs, n, rfl, r⟩ := f₂.S _ (.head _)
 obtain ⟨v, hv0, rv⟩ := r.get hd
 refine wpAny_getItem_list ⟨_, e, rfl, _, rfl⟩ h0 hk (by simpa using hv0) ?_
 refine hv s₂ G₂ _ _ f₂.E fun v₂ s₃ G₃ k₃ r₃ => ho s₃ G₃ _ _ _ _ k₃.sub (rv.mono k₃.le) r₃ fun v₄ s₄ G₄ k₄ r₄ => ?_
 have f₄ := (f₂.go k₃).go k₄
 have e₄ := k₄.hp _ _ (k₃.hp _ _ e)
 have hlen := r.length
 have hlt : k.toNat < ds.length := (List.getElem?_eq_some_iff.mp hd).1
 have hsz : k < vs.size := by
  have : vs.size = ds.length := by simpa using hlen
  lia
 refine ki_setAt e₄ h0 hk hsz ?_
 obtain ⟨n', hd'⟩ := Obj.data_mapSeq (o := { cls := .type "list", data := .seq vs n }) rfl (·.setIfInBounds k.toNat v₄)
 refine h _ G₄ (f₄.mut0 (k' := .l (ds.set k.toNat d')) (t := s₄.toks) (Heap.SameBut.update ..) (Heap.get?_update_self _ e₄ (Obj.isFreed_of_seq hd')) ⟨vs.setIfInBounds k.toNat v₄, n', ?_, ?_⟩)
 · show Obj.mapSeq _ _ = _
   generalize hq : Obj.mapSeq (·.setIfInBounds k.toNat v₄) { cls := .type "list", data := .seq vs n } = ob at hd'
   have hc : ob.cls = .type "list" := by rw [← hq]; rfl
   have hdi : ob.dict = none := by rw [← hq]; rfl
   have hs : ob.slots = #[] := by rw [← hq]; rfl
   obtain ⟨c, di, da, sl⟩ := ob
   simp only at hc hdi hs hd'
   subst hc hdi hs hd'
   rfl
 · erw [Array.toList_setIfInBounds]
   exact RpL.set ((r.mono k₃.le).mono k₄.le) _ r₄
theorem c9 {o e : Expr} {apos pos pos' : Pos} {a : Addr} {ds : List D} {d : D} (f : Fm wr s₀ G₀ env ρ ((a, .l ds) :: os) s G) (hx : Ev (model prog w) A env ρ o (.v (.ref a))) (hv : Ev (model prog w) A env ρ e d) (hsz : ds.length ≤ 1000000)
 (h : ∀ s' G', Fm wr s₀ G₀ env ρ ((a, .l (ds ++ [d])) :: os) s' G' → wpAny (model prog w) A (execs rest env) Q E s')
 (hi : interactive env = false := by rfl) (hs : swapsWith (.Call (.Attribute o ("append":Str) apos) [e] [] pos) none pos'.line env = pure false := by rfl)
 {pl : Sem Bool} (hm : eval (.Call (.Attribute o ("append":Str) apos) [e] [] pos) env = (do
  let ov ← eval o env
  standAt apos.atName
  let (f, first) ← holding [ov] (getMethod ov ("append":Str) pl)
  callWith pos f first (backTo pos (starEach [e] env)) []) := by rfl)
 (he : ∀ env, starEach (e :: []) env = (false, eval e env) :: starEach [] env := by intro _; rfl) :
 wpAny (model prog w) A (execs (.Expr (.Call (.Attribute o ("append":Str) apos) [e] [] pos) pos' :: rest) env) Q E s := by
 refine de (MethodCall_ (hx s G _ _ f.E fun ov s₁ G₁ k₁ r₁ => ?_) hm) hi hs
 have r₁ : ov = .ref a := r₁
 subst r₁
 have f₁ := f.go k₁
 obtain ⟨g, na, ob, e₁, vs, n, rfl, r⟩ := f₁.S _ (.head _)
 refine getMethod_list_append e₁ rfl rfl (callWith_method1 ((ab hv ae he) pos s₁ G₁ _ _ f₁.E fun us s₂ G₂ k₂ r₂ => ?_) (he env))
 obtain ⟨v, us', rfl, rv, e0⟩ := r₂
 have e0 : us' = [] := e0
 subst e0
 have f₂ := f₁.go k₂
 have hlen : vs.size = ds.length := by have := r.length; simpa using this
 refine append_at (k₂.hp _ _ e₁) (fun h' hsb ho => ?_) (by erw [sizeLine_eq]; lia)
 exact h _ G₂ (f₂.mut0 (k' := .l (ds ++ [d])) (t := s₂.toks) hsb ho ⟨_, _, rfl, by erw [Array.toList_push]; exact RpL.append (r.mono k₂.le) (RpL.one rv)⟩)
end
set_option tactic.hygienic false
noncomputable def gK (c : Int) (l : List Int) : List Int := l.foldl (fun r a => cJ c a r) []
theorem i8 (c : Int) (l : List Int) : gK c l.reverse = gk c l := by
 unfold gK
 erw [List.foldl_reverse]
 induction l with
 | nil => rfl
 | cons a l ih => erw [List.foldr_cons, ih]; rfl
theorem lT (c : Int) (l : List Int) {i : Nat} {a : Int} (h : l[i]? = some a) : gK c (l.take (i + 1)) = cJ c a (gK c (l.take i)) := by
 unfold gK
 erw [List.take_add_one, h, List.foldl_append]
 rfl
theorem ja (c : Int) (l : List Int) : (gK c l).length = l.length := by
 have : ∀ (l : List Int) (r : List Int), (l.foldl (fun r a => cJ c a r) r).length = r.length + l.length := by
  intro l
  induction l with
  | nil => intro r; rfl
  | cons a l ih => intro r; erw [List.foldl_cons, ih, jn, List.length_cons]; lia
 have := this l []
 rw [List.length_nil, Nat.zero_add] at this
 exact this
theorem gp (A B : List Int) : List.zipWith (fun a b => D.t [a, b]) (A.map .i) (B.map .i) = (A.zip B).map fun p => D.t [.i p.1, .i p.2] := by
 erw [List.zipWith_map, List.zip, List.map_zipWith]
theorem lV (A B : List Bool) : List.zipWith (fun a b => D.t [a, b]) (A.map .b) (B.map .b) = (A.zip B).map fun p => D.t [.b p.1, .b p.2] := by
 erw [List.zipWith_map, List.zip, List.map_zipWith]
noncomputable def mulI (c : Int) : D → D
 | .i e => .i (c * e)
 | d => d
noncomputable def addT : D → D
 | .t [.i a, .i b] => .i (a + b)
 | d => d
noncomputable def gtB : D → D
 | .i a => .b (decide (a > 0))
 | d => d
noncomputable def neZ : D → Bool
 | .i a => a != 0
 | _ => false
noncomputable def neT : D → Bool
 | .t [.b a, .b b] => a != b
 | _ => false
noncomputable def fstT : D → D
 | .t [a, _] => a
 | d => d
noncomputable def atNe (r : List Int) : D → Bool
 | .i k => r.getD k.toNat 0 != 0
 | _ => false
theorem jX : ∀ m : List Bool, ((m.zip (m.drop 1)).filter fun p => p.1 != p.2).length = chg m
 | [] => rfl
 | [_] => rfl
 | a :: b :: r => by
   have ih := jX (b :: r)
   show (((a, b) :: ((b :: r).zip r)).filter fun p => p.1 != p.2).length = (if a = b then 0 else 1) + chg (b :: r)
   erw [List.filter_cons]
   have e : ((b :: r).drop 1) = r := rfl
   rw [e] at ih
   cases a <;> cases b <;> simp_all <;> lia
theorem oU (r : List Int) : (((r.map D.i).filter neZ).map gtB) = (aR r).map .b := by
 unfold aR
 erw [List.filter_map, List.map_map, List.map_map]
 have : (neZ ∘ D.i) = fun x => decide (x ≠ 0) := by funext x; simp [neZ, bne, BEq.beq]
 erw [this]
 rfl
theorem qS (r : List Int) (h : ∃ k, k < 7 ∧ r.getD k 0 ≠ 0) : ((rng 0 7).filter (atNe r))[0]? = some (.i (lz r)) := by
 have key : ∀ (n : Nat) (j : Nat) (r : List Int), (∃ k, k < n ∧ r.getD k 0 ≠ 0) → (((List.range' j n).filter fun k => r.getD (k - j) 0 != 0))[0]? = some (j + lz r) := by
  intro n
  induction n with
  | zero => rintro j r ⟨k, hk, _⟩; lia
  | succ n ih =>
    rintro j r ⟨k, hk, hne⟩
    erw [List.range'_succ, List.filter_cons]
    cases r with
    | nil => simp at hne
    | cons x r =>
      have e0 : (x :: r).getD (j - j) 0 = x := by erw [Nat.sub_self]; rfl
      erw [e0]
      by_cases hx : x = 0
      · subst hx
        erw [if_neg (by decide)]
        have hk' : ∃ k, k < n ∧ r.getD k 0 ≠ 0 := by
         cases k with
         | zero => simp at hne
         | succ k => exact ⟨k, by lia, by simpa using hne⟩
        have := ih (j + 1) r hk'
        have ef : ((List.range' (j + 1) n).filter fun k => (0 :: r).getD (k - j) 0 != 0) = ((List.range' (j + 1) n).filter fun k => r.getD (k - (j + 1)) 0 != 0) := by
         apply List.filter_congr
         intro k hk
         have := List.mem_range'.mp hk
         obtain ⟨i, hi, rfl⟩ := this
         have e1 : j + 1 + 1 * i - j = i + 1 := by lia
         have e2 : j + 1 + 1 * i - (j + 1) = i := by lia
         erw [e1, e2]
         rfl
        erw [ef, this]
        have e : lz (0 :: r) = lz r + 1 := by erw [lz]; exact if_pos rfl
        erw [e]
        congr 1
        lia
      · erw [if_pos (by simpa using hx)]
        have e : lz (x :: r) = 0 := by erw [lz]; exact if_neg hx
        erw [e]
        rfl
 have hk := key 7 0 r h
 have e : rng 0 7 = (List.range' 0 7).map fun (k : Nat) => D.i (k : Int) := by
  unfold rng
  erw [show ((7 : Int) - 0).toNat = 7 from rfl, List.range_eq_range']
  apply List.map_congr_left
  intro k _
  erw [Int.zero_add]
 erw [e, List.filter_map, List.getElem?_map]
 have ef : (atNe r ∘ fun (k : Nat) => D.i (k : Int)) = fun k => r.getD (k - 0) 0 != 0 := by
  funext k
  show (r.getD (k : Int).toNat 0 != 0) = _
  erw [Int.toNat_natCast, Nat.sub_zero]
 erw [ef, hk]
 simp
theorem cP {prog : Program} {w : World} {A : Around} {xs : List D} {n : Int} (h : (xs.length : Int) = n) (hsz : n < 2 ^ 63) : Cl (model prog w) A (.builtin "len") [.l xs] (.i n) := by
 subst h; exact cl_len hsz
theorem qY {prog : Program} {w : World} {A : Around} {a b : Bool} : Cmp (model prog w) A .NotEq (.b a) (.b b) (.b (a != b)) := by
 intro s G Q E _ _ hG ra rb hQ
 have ra : _ = Value.bool a := ra
 have rb : _ = Value.bool b := rb
 subst ra rb
 exact SeqAt.RcNeAt.bool_bool a b prog w E Q (hQ _ _ _ (Kp.rf hG) rfl)
noncomputable abbrev kB (total : List Int) (c : Int) : List (Str × D) := [(Str.ofString "total", .l (total.map .i)), (Str.ofString "c", .i c), (Str.ofString "zip", .v (.type "zip")), (Str.ofString "range", .v (.type "range")), (Str.ofString "len", .v (.builtin "len"))]
set_option maxRecDepth 100000 in
set_option maxHeartbeats 4000000 in
theorem pa {w : World} {A : Around} {g : Heap} {p : Program} {loose : List Str} {mean : ExcName → Option Value} {mg mb : Str → Option Value} (X : (hd.heap_39 w.params).In g) (T : Top p loose mean mg mb g) (total : List Int) (c : Int) (hlen : total.length = 7) (hc : Builtin.Int.intBits c ≤ 64)
 (hne : ∃ k, k < 7 ∧ (gk c total).getD k 0 ≠ 0) (hA : A.handled = none) (hroom : A.depth < recursionLimit) :
 Ct (model Challenge.rw_wb0032_01.row.prog w) A g.get? 116 [.l (total.map .i), .i c] (.t [.i (sgn total c).1, .i (sgn total c).2]) := by
 intro s G Q E vs hin hle hvs hQ
 refine oN (Z := fun vs => wpAny _ _ (call _ vs _) _ _ _) hvs fun v₁ t₂ r₁ => ?_
 revert X
 k_fill
 intro X
 k_dflt (refine' bo (os := []) (ρ := (kB total c)) X T hroom hin hle ?ho ?hcd ?hbody ?hbind ?hclo ?hkind ?hnd ?gl ?bu ?hos ?hod ?hρ ?hrun ?hco ?hgen ?hk; ((case ho | hcd => k_is); (case hnd => decide +kernel); (case hbody | hclo | gl | bu | hco | hgen | hk => exact rfl)); (case hbind => exact BindsTo.of_eq rfl); (case hkind => exact rfl); (case hos => exact List.forall_mem_nil _); (case hod => exact List.nodup_nil))
 case hρ =>
  intro h L hn hc hg hb
  repeat' first | exact List.forall_mem_nil _ | with_reducible refine aM ?_ ?_
  · exact al hn rfl rfl rfl r₁
  · exact dA hc rfl rfl rfl ⟨_, rfl⟩
  · exact aB hg hb rfl rfl rfl (mg_none_of X T.g (by k_is)) ((T.builtins _ (by decide)).trans (by decide +kernel))
  · exact aB hg hb rfl rfl rfl (mg_none_of X T.g (by k_is)) ((T.builtins _ (by decide)).trans (by decide +kernel))
  · exact aB hg hb rfl rfl rfl (mg_none_of X T.g (by k_is)) ((T.builtins _ (by decide)).trans (by decide +kernel))
 case hrun =>
  intro s₁ L f₁
  refine cp fun E' => ?_
  have hl7 : (gk c total).length = 7 := by rw [← i8, ja, List.length_reverse, hlen]
  refine ao (ρ' := (Str.ofString "row", .l (([] : List Int).map .i)) :: (kB total c)) f₁ (bc ae (by decide)) ar aU fun s₂ G₂ f₂ => ?_
  refine dh (xs := total.reverse.map .i) (fun i => ((Str.ofString "row", .l ((gK c (total.reverse.take i)).map .i)) :: kB total c)) (fun ux => [])
   f₂ (dj (bg hA (c7 (hs := ⟨_, fun ux ux => by with_unfolding_all rfl⟩) (lo := none) (hi := none) (st := some (-1)) (aa m1) trivial trivial (gI ad dT) (by decide) (by erw [List.length_map]; lia))) (by erw [qQ, List.map_reverse])) ?turn ?hend
  case turn =>
   intro i d hd
   rw [List.getElem?_map] at hd
   obtain ⟨a, ha, rfl⟩ := Option.map_eq_some_iff.mp hd
   refine ⟨_, bS ar af, fun wr s₀ G₀ s G E' Qt kQt f => ?_⟩
   have hl := ja c (total.reverse.take i)
   have hl2 : (total.reverse.take i).length ≤ 7 := by erw [List.length_take, List.length_reverse]; lia
   generalize hr : gK c (total.reverse.take i) = r at f hl
   have hml : (r.map (c * ·) ++ [0]).length ≤ 8 := by erw [List.length_append, List.length_map]; simp; lia
   refine aP (wr := wr) (s₀ := s₀) (G₀ := G₀) ar (kG (xs := ((r.map (c * ·) ++ [0]).zip (0 :: r)).map fun (p : Int × Int) => D.t [.i p.1, .i p.2]) addT (fun ux => true) [] (fun d => match d with | .t [a, b] => [(Str.ofString "d", b), (Str.ofString "b", a)] | _ => []) f
    (dj (aH m4 (ab (ag (bj (mulI c) (fun ux => true) [(Str.ofString "c", .i c)] (fun d => [(Str.ofString "e", d), (Str.ofString "c", .i c)]) (bg hA (aa m1)) rfl (by decide +kernel) rfl (by decide +kernel) ?hcap ?has ?ht ?he ?hz) (bc (ab ad ae) ?hz1) (bE ?hz2)) (ab (ag (bc (ab ad ae) ?hz1) (aa m1) (bE ?hz3)) ae)) (hX hA)) ?hcv) rfl (by decide +kernel) rfl (by decide +kernel) ?hcap2 ?has2 ?ht2 ?he2 ?hz4 fun s₂ G₂ a₂ f₂ na => ?_)
   case hcap => exact fun C h G hE => aV hE rfl rfl rfl cv
   case has => exact fun C d hd => ax rfl af
   case ht => exact fun C d ux => bD
   case he =>
    intro C d hd _
    obtain ⟨e, _, rfl⟩ := List.mem_map.mp hd
    exact ag (aa m1) (aa m0) (dw (IntMulOk.of_left hc))
   case hz => erw [List.length_map]; lia
   case hz1 => exact (by decide : (1 : Nat) ≤ 1000000)
   case hz2 =>
    erw [List.length_map, List.filter_eq_self.mpr (fun ux ux => rfl), List.length_map]
    simp
    lia
   case hz3 =>
    erw [List.length_map]
    simp
    lia
   case hcv =>
    erw [List.filter_eq_self.mpr (fun ux ux => rfl)]
    rw [← gp]
    congr 1
    erw [List.map_append, List.map_map, List.map_map]
    rfl
   case hcap2 => exact fun C h G hE => aV hE rfl rfl rfl cv
   case has2 =>
    intro C d hd
    obtain ⟨⟨x, y⟩, _, rfl⟩ := List.mem_map.mp hd
    exact bN hA (ax rfl af) (ax rfl af)
   case ht2 => exact fun C d ux => bD
   case he2 =>
    intro C d hd _
    obtain ⟨⟨x, y⟩, _, rfl⟩ := List.mem_map.mp hd
    exact ag (aa m1) (aa m0) bA
   case hz4 =>
    erw [List.length_map, List.length_zip]
    lia
   have hz : (((((r.map (c * ·) ++ [0]).zip (0 :: r)).map fun (p : Int × Int) => D.t [.i p.1, .i p.2]).filter fun ux => true).map addT) = (List.zipWith (· + ·) (r.map (c * ·) ++ [0]) (0 :: r)).map .i := by
    erw [List.filter_eq_self.mpr (fun ux ux => rfl), List.map_map, List.zip, List.map_zipWith, List.map_zipWith]
    rfl
   rw [hz] at f₂
   have hstp : ∃ x l, List.zipWith (· + ·) (r.map (c * ·) ++ [0]) (0 :: r) = x :: l ∧ cJ c a r = (x + a) :: l := by
    cases q : List.zipWith (· + ·) (r.map (c * ·) ++ [0]) (0 :: r) with
    | nil => have := jM c r; rw [q] at this; simp at this
    | cons x l => exact ⟨x, l, rfl, by unfold cJ; erw [q]⟩
   obtain ⟨x, l, e1, e2⟩ := hstp
   rw [e1] at f₂
   refine cL (d := .v (.ref a₂)) (ρ' := ((Str.ofString "row", .v (.ref a₂)) :: (Str.ofString "a", .i a) :: kB total c)) f₂ rfl aU fun s₃ f₃ => ?_
   refine l7 f₃ (aa m0) ad (by decide) (by decide) (d := .i x) rfl (aa m1) ni fun s₄ G₄ f₄ => ?_
   obtain ⟨G₅, f₅, _⟩ := f₄.freeze (ρ' := ((Str.ofString "row", .l ((cJ c a r).map .i)) :: kB total c)) na (by
    erw [e2]
    refine List.forall_mem_cons.mpr ⟨Or.inr ⟨rfl, List.Mem.head _⟩, ?_⟩
    exact fun p hp => Or.inl (.tail _ (.tail _ hp)))
   rw [lT c _ ha, hr] at kQt
   exact wpAny_execs_nil (kQt _ _ f₅)
  case hend =>
   intro s' G' E' f
   refine wpAny_execs_nil ?_
   rw [List.length_map, List.take_length, i8] at f
   generalize hR : gk c total = R at f hl7 hne
   refine ao (d := .i (lz R)) f (aF (k := 0) (d := .i (lz R)) (bj (xs := rng 0 7) (fun d => d) (atNe R) [(Str.ofString "row", .l (R.map .i))] (fun d => [(Str.ofString "k", d), (Str.ofString "row", .l (R.map .i))]) (aH m4 (ab ad ae) (ca hA (by decide) (by decide))) rfl (by decide +kernel) rfl (by decide +kernel) ?hcap ?has ?ht ?he (by decide)) ad (by decide) (by decide) ?hx) ar af fun s₂ G₂ f₂ => ?_
   case hcap => exact fun C h G hE => aV hE rfl rfl rfl cv
   case has => exact fun C d hd => ax rfl af
   case ht =>
    intro C d hd
    obtain ⟨k, h1, h2, rfl⟩ := hJ hd
    refine dO (aj (aF (aa m1) (aa m0) h1 (by lia) (d := .i (R.getD k.toNat 0)) ?_) ad lW)
    erw [List.getElem?_map, List.getD_eq_getElem?_getD, List.getElem?_eq_getElem (by lia)]
    rfl
   case he => exact fun C d hd ux => aa m0
   case hx =>
    erw [List.map_id']
    exact qS R hne
   refine dp gtB neZ [] (fun d => [(Str.ofString "a", d)]) f₂ (bg hA (aa m1)) rfl (by decide +kernel) rfl (by decide +kernel) ?hcap ?has ?ht ?he (by erw [List.length_map]; lia) ar af fun s₃ G₃ f₃ => ?_
   case hcap => exact fun C h G hE => aV hE rfl rfl rfl cv
   case has => exact fun C d hd => ax rfl af
   case ht =>
    intro C d hd
    obtain ⟨a, _, rfl⟩ := List.mem_map.mp hd
    exact dO (aj (aa m0) ad lW)
   case he =>
    intro C d hd _
    obtain ⟨a, _, rfl⟩ := List.mem_map.mp hd
    exact mw (aa m0) ad gu
   rw [oU] at f₃
   have hml : (aR R).length ≤ 7 := by
    unfold aR
    erw [List.length_map]
    exact Nat.le_trans (List.length_filter_le _ _) (by lia)
   refine ao (d := .i (vr R)) f₃ (aK (m6 m1) (ab (bj (xs := ((aR R).zip ((aR R).drop 1)).map fun (p : Bool × Bool) => D.t [.b p.1, .b p.2]) fstT neT [] (fun d => match d with | .t [a, b] => [(Str.ofString "b", b), (Str.ofString "a", a)] | _ => []) (dj (aH m5 (ab (aa m0) (ab (c7 (hs := ⟨_, fun ux ux => by with_unfolding_all rfl⟩) (lo := some 1) (hi := none) (st := none) (aa m0) ad trivial trivial (by decide) ?hz) ae)) (hX hA)) ?hcv) rfl (by decide +kernel) rfl (by decide +kernel) ?hcap ?has ?ht ?he ?hz1) ae) (cP ?hln ?hz2)) ar af fun s₄ G₄ f₄ => ?_
   case hz => erw [List.length_map]; lia
   case hcv => erw [mo _ (by decide), show Int.toNat 1 = 1 from rfl, ← List.map_drop, lV]
   case hcap => exact fun C h G hE => aV hE rfl rfl rfl cv
   case has =>
    intro C d hd
    obtain ⟨⟨x, y⟩, _, rfl⟩ := List.mem_map.mp hd
    exact bN hA (ax rfl af) (ax rfl af)
   case ht =>
    intro C d hd
    obtain ⟨⟨x, y⟩, _, rfl⟩ := List.mem_map.mp hd
    exact dO (aj (aa m1) (aa m0) qY)
   case he =>
    intro C d hd _
    obtain ⟨⟨x, y⟩, _, rfl⟩ := List.mem_map.mp hd
    exact ah (d := .b x) (aa m1) rfl
   case hz1 => erw [List.length_map, List.length_zip]; lia
   case hln =>
    erw [List.length_map, List.filter_map, List.length_map]
    unfold vr
    rw [← jX]
    rfl
   case hz2 =>
    have : vr R ≤ 7 := by
     unfold vr
     rw [← jX]
     refine Nat.le_trans (List.length_filter_le _ _) ?_
     erw [List.length_zip]
     lia
    lia
   refine bJ (d := .t [.i (sgn total c).1, .i (sgn total c).2]) f₄ (ah (bp (ab (ag (ag ad (aa m2) bL) (aa m0) bL) (ab (ag ad (aa m0) bL) ae)) (Nat.le_of_ble_eq_true rfl)) ?hcv) fun v s₅ G₅ f₅ r => hQ v s₅ G₅ f₅.kp r
   case hcv =>
    unfold sgn
    erw [hR]
set_option tactic.hygienic false
section
variable {prog : Program} {w : World} {A : Around} {env : Env} {ρ ρ' : List (Str × D)}
theorem iop_xor {a b : Int} : jy (model prog w) A .BitXor (.i a) (.i b) (.i (Builtin.bitXor a b)) := by
 rintro s G Q E _ _ hG ⟨t, rfl⟩ ⟨u, rfl⟩ hQ
 exact ixor_int (hQ _ _ _ (Kp.tok hG _) ⟨_, rfl⟩)
theorem lY {a : Int} (hsz : (baseText "0x" 16 a).length ≤ sizeLine) : Cl (model prog w) A (.builtin "hex") [.i a] (.s (baseText "0x" 16 a)) := by
 rintro s G Q E vs hG ⟨v, r, rfl, ⟨t, rfl⟩, rfl⟩ hQ
 exact P.hex_of_int (hQ _ _ _ (Kp.tok hG _) ⟨_, rfl⟩) hsz
noncomputable def Mt (prog : Program) (w : World) (A : Around) (name : Str) (od : D) (ds : List D) (d : D) : Prop :=
 ∃ id, (∀ (s : Shared) (G : Mem) (ov : Value) (Q : Value × List Value → Shared → Prop) (E : Value → Shared → Prop) (pl : Sem Bool), In G s.heap → Rp G od ov → Q (.builtin id, [ov]) s → wpAny (model prog w) A (getMethod ov name pl) Q E s) ∧
   Cl (model prog w) A (.builtin id) (od :: ds) d
theorem dB {o e : Expr} {es : List Expr} {name : Str} {apos pos : Pos} {od d : D} {ds : List D} {pl : Sem Bool} (ho : Ev (model prog w) A env ρ o od) (ha : EvL (model prog w) A env ρ (e :: es) ds) (hm : Mt prog w A name od ds d)
 (he : starEach (e :: es) env = (false, eval e env) :: starEach es env := by rfl) (hplain : (backTo pos (starEach es env)).any (·.1) = false := by rfl)
 (hv : eval (.Call (.Attribute o name apos) (e :: es) [] pos) env = (do
  let ov ← eval o env
  standAt apos.atName
  let (f, first) ← holding [ov] (getMethod ov name pl)
  callWith pos f first (backTo pos (starEach (e :: es) env)) []) := by rfl) :
 Ev (model prog w) A env ρ (.Call (.Attribute o name apos) (e :: es) [] pos) d := by
 intro s G Q E hE hQ
 obtain ⟨id, hg, hc⟩ := hm
 refine MethodCall_ (ho s G _ _ hE fun ov s₁ G₁ k₁ r₁ => hg s₁ G₁ ov _ _ _ k₁.sub r₁ ?_) hv
 exact callWith_method1 (ha pos s₁ G₁ _ _ (hE.go k₁) fun vs s₂ G₂ k₂ r₂ => hc s₂ G₂ _ _ (ov :: vs) k₂.sub ⟨ov, vs, rfl, r₁.mono k₂.le, r₂⟩ fun v s₃ G₃ k₃ r₃ => hQ v s₃ G₃ ((k₁.tr k₂).tr k₃) r₃) he hplain
theorem q7 {o : Expr} {name : Str} {apos pos : Pos} {od d : D} {pl : Sem Bool} (ho : Ev (model prog w) A env ρ o od) (hm : Mt prog w A name od [] d)
 (hv : eval (.Call (.Attribute o name apos) [] [] pos) env = (do
  let ov ← eval o env
  standAt apos.atName
  let (f, first) ← holding [ov] (getMethod ov name pl)
  callWith pos f first (backTo pos (starEach [] env)) []) := by rfl) :
 Ev (model prog w) A env ρ (.Call (.Attribute o name apos) [] [] pos) d := by
 intro s G Q E hE hQ
 obtain ⟨id, hg, hc⟩ := hm
 refine MethodCall_ (ho s G _ _ hE fun ov s₁ G₁ k₁ r₁ => hg s₁ G₁ ov _ _ _ k₁.sub r₁ ?_) hv
 exact callWith_method0 (hc s₁ G₁ _ _ [ov] k₁.sub ⟨ov, [], rfl, r₁, rfl⟩ fun v s₃ G₃ k₃ r₃ => hQ v s₃ G₃ (k₁.tr k₃) r₃)
theorem jC {id : String} {name : Str} {x : Str} (slot : Slot "str" name id) (ty : typeOf (.builtin id) = pure (.type "method_descriptor")) (s : Shared) (G : Mem) (ov : Value) (Q : Value × List Value → Shared → Prop) (E : Value → Shared → Prop) (pl : Sem Bool) (hG : In G s.heap) (r : Rp G (.s x) ov) (hQ : Q (.builtin id, [ov]) s) : wpAny (model prog w) A (getMethod ov name pl) Q E s := by
 obtain ⟨t, rfl⟩ := r
 with_reducible exact PySem.GM.of (.str x t) (typeIs_str _ _ _) slot ty PySem.GM.noRef hQ
theorem m9 {id : String} {name : Str} {xs : List D} (slot : Slot "list" name id) (ty : typeOf (.builtin id) = pure (.type "method_descriptor")) (s : Shared) (G : Mem) (ov : Value) (Q : Value × List Value → Shared → Prop) (E : Value → Shared → Prop) (pl : Sem Bool) (hG : In G s.heap) (r : Rp G (.l xs) ov) (hQ : Q (.builtin id, [ov]) s) : wpAny (model prog w) A (getMethod ov name pl) Q E s := by
 obtain ⟨a, vs, n, e, g, q⟩ := r
 subst e
 have hd : ∀ b, Value.ref a = .ref b → ∃ o, s.heap.get? b = some o ∧ o.dict = none := fun b e => ⟨_, (Value.ref.inj e) ▸ hG _ _ g, rfl⟩
 have hT : s.TypeIs (.ref a) "list" := ⟨_, hG _ _ g, rfl⟩
 exact getMethod_builtin hT PySem.F.plainAttrs_list slot ty hd hQ
theorem jB {G : Mem} : ∀ {ws : List Str} {vs : List Value}, RpL G (ws.map .s) vs → ∃ l : List (Str × Tok), vs = strValues l ∧ l.map (·.1) = ws
 | [], vs, h => by have h : vs = [] := h; subst h; exact ⟨[], rfl, rfl⟩
 | x :: ws, _, ⟨v, r, rfl, ⟨t, e⟩, rr⟩ => by
   obtain ⟨l, e1, e2⟩ := jB rr
   subst e e1
   exact ⟨(x, t) :: l, rfl, by erw [List.map_cons, e2]⟩
theorem glued_one (sep x : Str) : Builtin.Str.glued sep [x] = x := rfl
theorem nv {sep : Str} {ws : List Str} (hl : Builtin.Str.tooLong (ws.toArray.foldl (· + ·.length + sep.length) 0) = false) (hz : (Builtin.Str.glued sep ws).length ≤ sizeLine) : Mt prog w A ("join":Str) (.s sep) [.l (ws.map .s)] (.s (Builtin.Str.glued sep ws)) := by
 refine ⟨"str.join", jC PySem.F.slot_str_join PySem.F.type_str_join, ?_⟩
 rintro s G Q E vs hG ⟨v, r, rfl, ⟨t, rfl⟩, v', r', rfl, ⟨a, us, n, rfl, g, q⟩, rfl⟩ hQ
 obtain ⟨l, e1, e2⟩ := jB q
 have hL : s.heap.IsList a (strValues l).toArray := ⟨_, hG _ _ g, rfl, n, by rw [← e1]⟩
 refine call_meets PySem.F.slot_str_join (typeIs_str _ _ _) PySem.F.entry_str_join (PySem.F.args_str_join_2 _ _) (meets_str_join_list sep t a l (by erw [e2]; exact hl)) ⟨hL, ?_⟩
 subst e2
 match l, hz, hQ with
 | [], hz, hQ => exact ⟨hz, hQ _ _ _ (Kp.tok hG _) ⟨_, rfl⟩⟩
 | [p], hz, hQ => exact hQ _ _ _ (Kp.rf hG) ⟨_, rfl⟩
 | p :: q :: r, hz, hQ => exact ⟨hz, hQ _ _ _ (Kp.tok hG _) ⟨_, rfl⟩⟩
theorem kf {G : Mem} : ∀ (ws : List Str) (n : Nat), RpL G (ws.map .s) (strsFrom n ws)
 | [], _ => rfl
 | x :: ws, n => ⟨_, _, rfl, ⟨_, rfl⟩, kf ws (n + 1)⟩
noncomputable def cx (x y : Str) : List Str := Builtin.Str.partsBetween x (Builtin.Str.occurrences x y 0 x.length (x.length + 1)) y.length
theorem o9 {x y : Str} (h1 : (decide (x.length < y.length) || decide (Builtin.Str.strKind x < Builtin.Str.strKind y)) = false) (hy : (y.length == 0) = false) (hf : (Builtin.Str.occurrences x y 0 x.length (x.length + 1)).isEmpty = false) (hx : x.length ≤ sizeLine)
 (hn : (cx x y).length ≤ sizeLine) : Mt prog w A ("split":Str) (.s x) [.s y] (.l ((cx x y).map .s)) := by
 refine ⟨"str.split", jC PySem.F.slot_str_split PySem.F.type_str_split, ?_⟩
 rintro s G Q E vs hG ⟨v, r, rfl, ⟨t, rfl⟩, v', r', rfl, ⟨u, rfl⟩, rfl⟩ hQ
 refine call_meets PySem.F.slot_str_split (typeIs_str _ _ _) PySem.F.entry_str_split (PySem.F.args_str_split_2 _ _) (meets_str_split_sep x y t u h1 hy hf hx hn) ?_
 have K := Kp.push hG (o := { cls := .type "list", data := .seq (strsFrom s.toks (cx x y)).toArray }) rfl (s.toks + (cx x y).length)
 exact hQ _ _ _ K ⟨_, _, _, rfl, a9 _ _ _, kf _ _⟩
theorem eO {G : Mem} : ∀ {ns : List Int} {vs : List Value}, RpL G (ns.map .i) vs → IntsAre vs ns
 | [], vs, h => by have h : vs = [] := h; subst h; exact .nil
 | x :: ns, _, ⟨v, r, rfl, ⟨t, e⟩, rr⟩ => by subst e; exact .cons x t (eO rr)
theorem kS {ns : List Int} {k : Int} : Mt prog w A ("count":Str) (.l (ns.map .i)) [.i k] (.i (ns.count k : Nat)) := by
 refine ⟨"list.count", m9 PySem.F.slot_list_count PySem.F.type_list_count, ?_⟩
 rintro s G Q E vs hG ⟨v, r, rfl, ⟨a, us, n, rfl, g, q⟩, v', r', rfl, ⟨u, rfl⟩, rfl⟩ hQ
 have hL : s.heap.IsList a us.toList.toArray := ⟨_, hG _ _ g, rfl, n, by simp⟩
 exact count_list_ints hL (eO q) (hQ _ _ _ (Kp.tok hG _) ⟨_, rfl⟩)
noncomputable def isS (x : Str) : Value → Bool
 | .str a _ => a == x
 | _ => false
theorem rh {ws : List Str} {x : Str} {j : Nat} (hj : ws[j]? = some x) (hno : ∀ m, m < j → ws[m]? ≠ some x) (hsz : ws.length ≤ 1000000) : Mt prog w A ("index":Str) (.l (ws.map .s)) [.s x] (.i j) := by
 refine ⟨"list.index", m9 PySem.F.slot_list_index PySem.F.type_list_index, ?_⟩
 rintro s G Q E vs hG ⟨v, r, rfl, ⟨a, us, n, rfl, g, q⟩, v', r', rfl, ⟨u, rfl⟩, rfl⟩ hQ
 obtain ⟨l, e1, e2⟩ := jB q
 have hlen : us.size = ws.length := by have := q.length; simpa using this
 have hjl : j < ws.length := (List.getElem?_eq_some_iff.mp hj).1
 have at' : ∀ m (hm : m < us.size), ∃ t y, us[m] = .str y t ∧ ws[m]? = some y := by
  intro m hm
  have h1 : us.toList[m]? = some us[m] := by simp [hm]
  rw [e1] at h1
  unfold strValues at h1
  rw [List.getElem?_map] at h1
  obtain ⟨p, hp, h2⟩ := Option.map_eq_some_iff.mp h1
  refine ⟨p.2, p.1, h2.symm, ?_⟩
  rw [← e2, List.getElem?_map, hp]
  rfl
 refine call_meets PySem.F.slot_list_index ⟨_, hG _ _ g, rfl⟩ PySem.F.entry_list_index (PySem.F.args_list_index_2 _ _) (MeetsSeq.list_index a us n (.str x u) (isS x) (fun y hy => ?_) j (by lia) (by lia) ?_ fun m hm hmj => ?_) ⟨hG _ _ g, hQ _ _ _ (Kp.tok hG _) ⟨_, rfl⟩⟩
 · obtain ⟨m, hm, rfl⟩ := Array.mem_iff_getElem.mp hy
   obtain ⟨t, y, e, _⟩ := at' m hm
   erw [e]
   exact eqGives_str y x t u
 · obtain ⟨t, y, e, e'⟩ := at' j (by lia)
   erw [e]
   rw [hj] at e'; cases e'
   exact beq_self_eq_true x
 · obtain ⟨t, y, e, e'⟩ := at' m hm
   erw [e]
   show (y == x) = false
   have := hno m hmj
   rw [e'] at this
   exact beq_eq_false_iff_ne.mpr fun q => this (by erw [q])
theorem mt_get2 {f : Int → Option Value} {a : Addr} {k : Int} {dflt d : D} {Gs : Mem} {o : Obj} (ho : Gs a = some o) (hm : ∀ h : Heap, In Gs h → h.MapOf (intKind prog w) a f) (hs : (a == sysModules) = false) (hd : (∃ v, f k = some v ∧ Rp Gs d v) ∨ (f k = none ∧ d = dflt)) :
 Mt prog w A ("get":Str) (.g Gs (.ref a)) [.i k, dflt] d := by
 refine ⟨"dict.get", fun s G ov Q E pl hG r hQ => ?_, ?_⟩
 · obtain ⟨rfl, le⟩ := r
   have M := hm s.heap fun b o e => hG b o (le b o e)
   exact getMethod_builtin M.typeIs PySem.F.plainAttrs_dict PySem.F.slot_dict_get PySem.F.type_dict_get M.noDict hQ
 · rintro s G Q E vs hG ⟨v, r, rfl, ⟨rfl, le⟩, v', r', rfl, ⟨t, rfl⟩, v'', r'', rfl, rd, rfl⟩ hQ
   have M := hm s.heap fun b o e => hG b o (le b o e)
   refine wpAny_call (codeAny_call_builtin PySem.F.slot_dict_get.plain PySem.F.entry_dict_get (PySem.F.slot_dict_get.check _ _ _ _ _ _ _ _ M.typeIs (PySem.F.args_dict_get_3 _ _ _) (meets_dict_get_default (intKind prog w) a (k := k) (key := .int k t) (show Value.isInt k (.int k t) = true from beq_self_eq_true k) hs v'' A (wants Q E) s ⟨f, M, ?_⟩)))
   rcases hd with ⟨v, e, rv⟩ | ⟨e, rfl⟩
   · erw [e]; exact hQ _ _ _ (Kp.tok hG _) (rv.mono le)
   · erw [e]; exact hQ _ _ _ (Kp.tok hG _) rd
end
set_option tactic.hygienic false
noncomputable def a7 (i : Nat) : Str := match i with
 | 0 => Str.ofString "OPTIMIZED"
 | 1 => Str.ofString "NEWLOCALS"
 | 2 => Str.ofString "VARARGS"
 | 3 => Str.ofString "VARKEYWORDS"
 | 4 => Str.ofString "NESTED"
 | 5 => Str.ofString "GENERATOR"
 | 6 => Str.ofString "NOFREE"
 | 7 => Str.ofString "COROUTINE"
 | 8 => Str.ofString "ITERABLE_COROUTINE"
 | 9 => Str.ofString "ASYNC_GENERATOR"
 | i => baseText "0x" 16 (2 ^ i)
theorem tab_of {prog : Program} {w : World} {g : Heap} {a : Addr} {es : Array DictEntry} {n : Nat} (h : g.get? a = some { cls := .type "dict", dict := none, data := .dict es n, slots := #[] })
 (hk : (es.toList.all fun e => match e.key with | .int i _ => e.hash == hashInt i | _ => false) = true) : ∀ h : Heap, In g.get? h → h.MapOf (intKind prog w) a (fun k => findBy Value.isInt es k) := by
 intro h' hin
 refine ⟨_, es, n, hin _ _ h, ⟨rfl, rfl, rfl⟩, rfl, fun e he => ?_, fun ux => rfl⟩
 have := List.all_eq_true.mp hk e (by simpa using he)
 cases q : e.key with
 | int i t =>
   rw [q] at this
   exact ⟨i, beq_self_eq_true i, eq_of_beq this⟩
 | _ => rw [q] at this; cases this
theorem up_n {P : Nat → Prop} {a : Nat} : ∀ i, a ≤ i → i < a → P i := fun ux h k => absurd k (Nat.not_lt.mpr h)
theorem up_s {P : Nat → Prop} {a b : Nat} (h : ∀ i, a ≤ i → i < b → P i) (k : P b) : ∀ i, a ≤ i → i < b + 1 → P i := fun i h1 h2 => (Nat.lt_or_ge i b).elim (h i h1) fun h3 => (Nat.le_antisymm (Nat.le_of_lt_succ h2) h3).symm ▸ k
theorem up_0 {P : Nat → Prop} {b : Nat} (h : ∀ i, 0 ≤ i → i < b → P i) : ∀ i, i < b → P i := fun i => h i (Nat.zero_le _)
set_option maxRecDepth 100000 in
set_option maxHeartbeats 4000000 in
theorem qs {w : World} {g : Heap} (X : (hd.heap_39 w.params).In g) : ∃ f o, g.get? 33 = some o ∧ (∀ h : Heap, In g.get? h → h.MapOf (intKind Challenge.rw_wb0032_01.row.prog w) 33 f) ∧ (∀ i, i < 10 → ∃ t, f (2 ^ i) = some (.str (a7 i) t)) ∧ (∀ i, 10 ≤ i → i < 32 → f (2 ^ i) = none) := by
 revert X
 k_fill
 intro X
 have h33 := X 33 _ (by k_is)
 refine ⟨_, _, h33, tab_of h33 (by decide +kernel), up_0 ?_, ?_⟩
 · repeat (refine up_s ?_ ⟨_, rfl⟩)
   exact up_n
 · repeat (refine up_s ?_ rfl)
   exact up_n
noncomputable def aL (F : Nat) : List Str := if F = 0 then [Str.ofString "0x0"] else ((List.range 32).filter F.testBit).map a7
noncomputable def aY (F i : Nat) : List Str := ((List.range i).filter F.testBit).map a7
noncomputable def cq (F : Nat) : Str := Builtin.Str.glued (", ":Str) (aL F)
theorem lE (F i : Nat) : aY F (i + 1) = aY F i ++ (if F.testBit i then [a7 i] else []) := by
 unfold aY
 erw [List.range_succ, List.filter_append, List.map_append]
 congr 1
 cases h : F.testBit i <;> simp [h]
noncomputable def br (F i : Nat) : Nat := (F >>> i) <<< i
theorem ju (F : Nat) : br F 0 = F := by simp [br]
theorem q6 (F i : Nat) : (br F i) &&& (2 ^ i) = if F.testBit i then 2 ^ i else 0 := by
 apply Nat.eq_of_testBit_eq
 intro j
 unfold br
 erw [Nat.testBit_and, Nat.testBit_shiftLeft, Nat.testBit_two_pow]
 by_cases h : i = j
 · subst h
   cases q : F.testBit i <;> simp [q]
 · cases q : F.testBit i <;> simp [h]
theorem dP (F i j : Nat) : (br F i).testBit j = (decide (i ≤ j) && F.testBit j) := by
 unfold br
 erw [Nat.testBit_shiftLeft, Nat.testBit_shiftRight]
 by_cases h : i ≤ j
 · have e : i + (j - i) = j := by lia
   simp [h, e]
 · simp [h]
theorem oX {F i : Nat} (h : F.testBit i = true) : br F i = br F (i + 1) + 2 ^ i := by
 have e1 : br F (i + 1) ||| 2 ^ i = br F i := by
  apply Nat.eq_of_testBit_eq
  intro j
  erw [Nat.testBit_or, dP, dP, Nat.testBit_two_pow]
  by_cases q : i = j
  · subst q; simp [h]
  · by_cases q2 : i ≤ j
    · have : i + 1 ≤ j := by lia
      simp [q, q2, this]
    · have : ¬ i + 1 ≤ j := by lia
      simp [q, q2, this]
 have e2 : br F (i + 1) &&& 2 ^ i = 0 := by
  apply Nat.eq_of_testBit_eq
  intro j
  erw [Nat.testBit_and, dP, Nat.testBit_two_pow, Nat.zero_testBit]
  by_cases q : i = j
  · subst q; simp; intro h; lia
  · simp [q]
 have e3 := nat_or_add_and (br F (i + 1)) (2 ^ i)
 rw [e1, e2] at e3
 lia
theorem oZ {F i : Nat} (h : F.testBit i = false) : br F (i + 1) = br F i := by
 apply Nat.eq_of_testBit_eq
 intro j
 erw [dP, dP]
 by_cases q : i = j
 · subst q; simp [h]
 · by_cases q2 : i ≤ j
   · have : i + 1 ≤ j := by lia
     simp [q2, this]
   · have : ¬ i + 1 ≤ j := by lia
     simp [q2, this]
theorem oJ {F i : Nat} (h : br F i = 0) : ∀ j, i ≤ j → F.testBit j = false := by
 intro j hj
 have := congrArg (fun x => Nat.testBit x j) h
 simp only [br, Nat.testBit_shiftLeft, Nat.testBit_shiftRight, Nat.zero_testBit] at this
 have e2 : i + (j - i) = j := by lia
 rw [e2] at this
 simpa [hj] using this
theorem low_all {F i : Nat} (h : br F i = 0) (hi : i ≤ 32) : aY F i = aY F 32 := by
 have hn := oJ h
 unfold aY
 congr 1
 have e : List.range 32 = List.range i ++ (List.range (32 - i)).map (i + ·) := by
  rw [← List.range_add]
  congr 1
  lia
 erw [e, List.filter_append]
 have : ((List.range (32 - i)).map (i + ·)).filter F.testBit = [] := by
  erw [List.filter_eq_nil_iff]
  intro j hj
  obtain ⟨k, _, rfl⟩ := List.mem_map.mp hj
  erw [hn (i + k) (by lia)]
  decide
 erw [this, List.append_nil]
theorem cE (a b : Nat) : Builtin.bitAnd (a : Int) (b : Int) = ((a &&& b : Nat) : Int) := by
 erw [bitAnd_pp (by lia) (by lia)]
 rfl
theorem ny : ∀ i, i < 32 → (baseText "0x" 16 ((2 ^ i : Nat) : Int)).length ≤ 100 := by decide +kernel
theorem shl_one (i : Nat) : (1 : Int) * 2 ^ i = ((2 ^ i : Nat) : Int) := by
 erw [Int.one_mul]; push_cast; rfl
noncomputable abbrev mU (g : Heap) : List (Str × D) := [(Str.ofString "range", .v (.type "range")), (Str.ofString "COMPILER_FLAG_NAMES", .g g.get? (.ref 33)), (Str.ofString "hex", .v (.builtin "hex"))]
set_option maxRecDepth 100000 in
set_option maxHeartbeats 4000000 in
theorem qd {w : World} {A : Around} {g : Heap} {p : Program} {loose : List Str} {mean : ExcName → Option Value} {mg mb : Str → Option Value} (X : (hd.heap_39 w.params).In g) (T : Top p loose mean mg mb g) (F : Nat) (hF : F < 2 ^ 32)
 (hl : Builtin.Str.tooLong ((aL F).toArray.foldl (· + ·.length + (", ":Str).length) 0) = false) (hz : (cq F).length ≤ sizeLine) (hA : A.handled = none) (hroom : A.depth < recursionLimit) :
 Ct (model Challenge.rw_wb0032_01.row.prog w) A g.get? 40 [.i F] (.s (cq F)) := by
 obtain ⟨tab, to, h33, htab, htl, hth⟩ := qs X
 intro s G Q E vs hin hle hvs hQ
 refine k_i (Z := fun vs => wpAny _ _ (call _ vs _) _ _ _) hvs fun t₁ => ?_
 revert X
 k_fill
 intro X
 k_dflt (refine' bo (os := []) (ρ := ((Str.ofString "flags", .i F) :: mU g)) X T hroom hin hle ?ho ?hcd ?hbody ?hbind ?hclo ?hkind ?hnd ?gl ?bu ?hos ?hod ?hρ ?hrun ?hco ?hgen ?hk; ((case ho | hcd => k_is); (case hnd => decide +kernel); (case hbody | hclo | gl | bu | hco | hgen | hk => exact rfl)); (case hbind => exact BindsTo.of_eq rfl); (case hkind => exact rfl); (case hos => exact List.forall_mem_nil _); (case hod => exact List.nodup_nil))
 case hρ =>
  intro h L hn hc hg hb
  repeat' first | exact List.forall_mem_nil _ | with_reducible refine aM ?_ ?_
  · exact al hn rfl rfl rfl ⟨_, rfl⟩
  · exact aB hg hb rfl rfl rfl (mg_none_of X T.g (by k_is)) ((T.builtins _ (by decide)).trans (by decide +kernel))
  · exact bi hg rfl rfl (mg_of X T.g (by k_is)) hle
  · exact aB hg hb rfl rfl rfl (mg_none_of X T.g (by k_is)) ((T.builtins _ (by decide)).trans (by decide +kernel))
 case hrun =>
  intro s₁ L f₁
  refine cp fun E' => ?_
  refine aP (wr := []) (s₀ := s) (G₀ := G) ar (cQ f₁ ae (by decide) fun s₂ G₂ a f₂ na => ?_)
  refine cL (d := .v (.ref a)) (ρ' := (Str.ofString "names", .v (.ref a)) :: ((Str.ofString "flags", .i (br F 0)) :: mU g)) f₂ rfl ?_ fun s₃ f₃ => ?_
  · erw [ju]; exact aU
  refine lS (xs := rng 0 32) (fun i ρi osi => osi = [(a, .l ((aY F i).map .s))] ∧ (F ≠ 0 → br F i ≠ 0) ∧ ρi = ((Str.ofString "names", .v (.ref a)) :: (Str.ofString "flags", .i (br F i)) :: mU g))
   (fun ρi osi => osi = [(a, .l ((aL F).map .s))] ∧ ρi = [(Str.ofString "names", .v (.ref a))]) (fun ux ux ux => False)
   f₃ (aH m2 (ab ad ae) (ca hA (by decide) (by decide))) ⟨rfl, fun h => by erw [ju]; exact h, rfl⟩ ?turn ?hend ?hbrk (fun ux ux ux ux ux ux h => h.elim)
  case turn =>
   rintro i d ρi osi hdi ⟨rfl, hg0, rfl⟩
   have hi : i < 32 := by
    have := (List.getElem?_eq_some_iff.mp hdi).1
    rw [a8] at this
    exact this
   have := dZ hdi
   rw [Int.zero_add] at this
   subst this
   refine ⟨_, bS ar af, fun wr s₀ G₀ s G E' f => ?_⟩
   have hge : ∀ {v : Nat}, (v : Int).toNat = v := fun {v} => Int.toNat_natCast v
   have e0 : Builtin.bitAnd (br F i : Int) ((2 ^ i : Nat) : Int) = ((if F.testBit i then 2 ^ i else 0 : Nat) : Int) := by erw [cE, q6]
   refine ao (d := .i ((2 ^ i : Nat) : Int)) f (ah (ag ad (aa m0) (pH (by lia) (by lia) (by decide))) (by erw [Int.toNat_natCast, shl_one])) ar af fun s₄ G₄ f₄ => ?_
   refine bB (c := F.testBit i) f₄ (aX (gF (ag (aa m3) (aa m0) iA) jE) ?htc) (fun s₅ G₅ f₅ hb => ?_) (fun s₅ G₅ f₅ hb => ?_)
   case htc =>
    erw [e0]
    cases hb : F.testBit i with
    | true =>
      erw [if_pos rfl]
      exact bne_iff_ne.mpr (Int.ofNat_ne_zero.mpr (Nat.ne_of_gt (Nat.two_pow_pos i)))
    | false => rfl
   · -- a flag that is there
     have hll : (aY F i).length ≤ 32 := by
      unfold aY
      erw [List.length_map]
      refine Nat.le_trans (List.length_filter_le _ _) ?_
      erw [List.length_range]
      lia
     refine c9 (d := .s (a7 i)) f₅ (aa m2) (dB (aa m5) (ab (aa m0) (ab (aK (m6 m0) (ab (aa m0) ae) (lY ?hzh)) ae)) (mt_get2 h33 htab (by decide) ?hget)) (by erw [List.length_map]; lia) fun s₆ G₆ f₆ => ?_
     case hzh => exact Nat.le_trans (ny i hi) (by erw [sizeLine_eq]; decide)
     case hget =>
      have e : ((2 ^ i : Nat) : Int) = 2 ^ i := by push_cast; rfl
      erw [e]
      by_cases h10 : i < 10
      · obtain ⟨t, ht⟩ := htl i h10
        exact .inl ⟨_, ht, t, rfl⟩
      · refine .inr ⟨hth i (by lia) hi, ?_⟩
        congr 1
        unfold a7
        split <;> first | lia | rfl
     refine jY (hl := .inl rfl) (d := .i (br F (i + 1))) f₆ m3 (aa m0) ?hxo ar (ρ' := ((Str.ofString "flags", .i (br F (i + 1))) :: (Str.ofString "flag", .i ((2 ^ i : Nat) : Int)) :: (Str.ofString "i", .i i) :: (Str.ofString "names", .v (.ref a)) :: mU g)) aU fun s₇ G₇ f₇ => ?_
     case hxo =>
      have e : ((br F (i + 1) : Nat) : Int) = Builtin.bitXor (br F i : Int) ((2 ^ i : Nat) : Int) := by
       erw [bitXor_and, e0, if_pos hb, oX hb]
       push_cast
       lia
      erw [e]
      exact iop_xor
     have hlw : aY F i ++ [a7 i] = aY F (i + 1) := by erw [lE, if_pos hb]
     have e1 : (aY F i).map D.s ++ [D.s (a7 i)] = (aY F (i + 1)).map .s := by rw [← hlw, List.map_append]; rfl
     rw [e1] at f₇
     have hF0 : F ≠ 0 := by
      rintro rfl
      rw [Nat.zero_testBit] at hb
      cases hb
     refine bB (c := !((br F (i + 1) : Int) != 0)) f₇ (tst_not (gF (aa m0) jE)) (fun s₈ G₈ f₈ hc => ?_) (fun s₈ G₈ f₈ hc => ?_)
     · have hz0 : br F (i + 1) = 0 := by
        have : ((br F (i + 1) : Nat) : Int) = 0 := by simpa using hc
        lia
       refine wpAny_execs_cons (wpAny_Break ?_)
       refine ⟨_, _, G₈, ⟨?_, rfl⟩, f₈.say (by
        refine List.forall_mem_cons.mpr ⟨?_, List.forall_mem_nil _⟩
        exact m3)⟩
       erw [low_all hz0 (by lia)]
       unfold aL
       erw [if_neg hF0]
       rfl
     · have hz0 : br F (i + 1) ≠ 0 := by
        have : ((br F (i + 1) : Nat) : Int) ≠ 0 := by simpa using hc
        lia
       refine wpAny_execs_nil (wpAny_execs_nil (wpAny_execs_nil ?_))
       refine ⟨_, _, G₈, ⟨rfl, fun ux => hz0, rfl⟩, f₈.say ?_⟩
       exact eS
   · refine wpAny_execs_nil (wpAny_execs_nil ?_)
     have e1 : br F (i + 1) = br F i := oZ hb
     have e2 : aY F (i + 1) = aY F i := by erw [lE, hb]; simp
     refine ⟨_, _, G₅, ⟨by erw [e2], fun h => by erw [e1]; exact hg0 h, rfl⟩, f₅.say ?_⟩
     erw [e1]
     exact eS
  case hend =>
   rintro ρ' os' s' G' E' ⟨rfl, hg0, rfl⟩ f
   have e32 : (rng 0 32).length = 32 := by erw [a8]; rfl
   rw [e32] at f hg0
   have hz32 : br F 32 = 0 := by
    unfold br
    erw [Nat.shiftRight_eq_div_pow, Nat.div_eq_of_lt hF]
    rfl
   have hF0 : F = 0 := Classical.byContradiction fun h => hg0 h hz32
   rw [hz32] at f
   have hlw : aY F 32 = [] := by erw [hF0]; rfl
   rw [hlw] at f
   refine c9 (d := .s ("0x0":Str)) f (aa m0) (ah (aK m4 (ab (aa m1) ae) (lY (by erw [sizeLine_eq]; decide +kernel))) (congrArg D.s (by decide +kernel))) (by decide) fun s₄ G₄ f₄ => wpAny_execs_nil ?_
   obtain ⟨G₅, f₅, _⟩ := f₄.freeze (ρ' := [(Str.ofString "names", .l ((aL F).map .s))]) na (by
    refine List.forall_mem_cons.mpr ⟨Or.inr ⟨?_, m0⟩, List.forall_mem_nil _⟩
    erw [hF0]; rfl)
   exact bJ f₅ (dB aT (ab (aa m0) ae) (nv hl hz)) fun v s₆ G₆ f₆ r => hQ v s₆ G₆ f₆.kp r
  case hbrk =>
   rintro ρ' os' s' G' ⟨rfl, rfl⟩ f
   obtain ⟨G₅, f₅, _⟩ := f.freeze (ρ' := [(Str.ofString "names", .l ((aL F).map .s))]) na (by
    refine List.forall_mem_cons.mpr ⟨Or.inr ⟨rfl, m0⟩, List.forall_mem_nil _⟩)
   exact bJ f₅ (dB aT (ab (aa m0) ae) (nv hl hz)) fun v s₆ G₆ f₆ r => hQ v s₆ G₆ f₆.kp r
set_option tactic.hygienic false
section
variable {prog : Program} {w : World} {A : Around} {env : Env} {ρ ρ' : List (Str × D)}
theorem og {x y : Str} (h1 : (decide (x.length < y.length) || decide (Builtin.Str.strKind x < Builtin.Str.strKind y)) = false) (hy : (y.length == 0) = false) (hx : x.length ≤ sizeLine)
 (hn : (cx x y).length ≤ sizeLine) : Mt prog w A ("split":Str) (.s x) [.s y] (.l ((cx x y).map .s)) := by
 cases hf : (Builtin.Str.occurrences x y 0 x.length (x.length + 1)).isEmpty with
 | false => exact o9 h1 hy hf hx hn
 | true =>
   have e : cx x y = [x] := by
    unfold cx Builtin.Str.partsBetween
    erw [List.isEmpty_iff.mp hf]
    show [Builtin.Str.strSub x 0 x.length] = [x]
    erw [StrLaws.sub_whole]
   refine ⟨"str.split", jC PySem.F.slot_str_split PySem.F.type_str_split, ?_⟩
   rintro s G Q E vs hG ⟨v, r, rfl, ⟨t, rfl⟩, v', r', rfl, ⟨u, rfl⟩, rfl⟩ hQ
   refine call_meets PySem.F.slot_str_split (typeIs_str _ _ _) PySem.F.entry_str_split (PySem.F.args_str_split_2 _ _) (meets_str_split_not_found x y t u h1 hy hf) ?_
   have K := Kp.push hG (o := { cls := .type "list", data := .seq [Value.str x t].toArray }) rfl s.toks
   refine hQ _ _ _ K ⟨_, _, _, rfl, a9 _ _ _, ?_⟩
   erw [e]
   exact ⟨_, _, rfl, ⟨_, rfl⟩, rfl⟩
theorem mz {x : Str} {ws : List Str} (hf : (Builtin.Str.spaceWords x (x.length + 1) == [(0, x.length)]) = false) (hx : x.length ≤ sizeLine) (hn : (Builtin.Str.spaceWords x (x.length + 1)).length ≤ sizeLine) (hw : PySem.wordsOf x = ws) :
 Mt prog w A ("split":Str) (.s x) [] (.l (ws.map .s)) := by
 subst hw
 refine ⟨"str.split", jC PySem.F.slot_str_split PySem.F.type_str_split, ?_⟩
 rintro s G Q E vs hG ⟨v, r, rfl, ⟨t, rfl⟩, rfl⟩ hQ
 refine call_meets PySem.F.slot_str_split (typeIs_str _ _ _) PySem.F.entry_str_split (PySem.F.args_str_split_1 _) (meets_str_split_space x t hx hn) ?_
 erw [hf]
 erw [if_neg (by decide)]
 have K := Kp.push hG (o := { cls := .type "list", data := .seq (strsFrom s.toks (PySem.wordsOf x)).toArray }) rfl (s.toks + (Builtin.Str.spaceWords x (x.length + 1)).length)
 exact hQ _ _ _ K ⟨_, _, _, rfl, a9 _ _ _, kf _ _⟩
theorem qa {vs : List Value} {ns : List Int} (h : IntsAre vs ns) (k : Int) : (vs.any fun v => match v with | .int a _ => a == k | _ => false) = ns.any (· == k) := by
 induction h with
 | nil => rfl
 | cons n t h ih => erw [List.any_cons, List.any_cons, ih]
theorem pn {vs : List Value} {ns : List Int} (h : IntsAre vs ns) : ∀ y ∈ vs, ∃ a t, y = .int a t := by
 induction h with
 | nil => intro y hy; cases hy
 | cons n t h ih =>
   intro y hy
   rcases List.mem_cons.mp hy with rfl | hy
   · exact ⟨_, _, rfl⟩
   · exact ih y hy
theorem cmp_in {k : Int} {ns : List Int} : Cmp (model prog w) A .In (.i k) (.l (ns.map .i)) (.b (ns.any (· == k))) := by
 rintro s G Q E _ _ hG ⟨t, rfl⟩ ⟨a, us, n, rfl, g, q⟩ hQ
 have ia := eO q
 refine PySem.SeqRoads2.in_list (fun v => match v with | .int a _ => a == k | _ => false) (fun y hy => ?_) (hG _ _ g) (hQ _ _ _ (Kp.rf hG) ?_)
 · obtain ⟨a, t', rfl⟩ := pn ia y (by simpa using hy)
   exact MeetsSeq.EqGives.int a k t' t
 · show Value.bool _ = .bool _
   rw [← qa ia k, Array.any_toList]
noncomputable def uniq (ns : List Int) : Nat := (firstMet (fun i => ns.getD i 0) ns.length).length
theorem nS {x y : Str} {p p' q q' : Pos} {e : Expr} {ns : List Int} (hh : A.handled = none) (hl : (x, .v (.builtin "len")) ∈ ρ) (hset : (y, .v (.type "set")) ∈ ρ) (he : Ev (model prog w) A env ρ e (.l (ns.map .i))) (hsz : ns.length ≤ 1000)
 (hx : (x == ("__debug__" : Str)) = false := by decide) (hk : (env.kindOf x).isSome = true := by rfl) (hy : (y == ("__debug__" : Str)) = false := by decide) (hk2 : (env.kindOf y).isSome = true := by rfl)
 (hs1 : starEach [.Call (.Name y p') [e] [] q'] env = [(false, eval (.Call (.Name y p') [e] [] q') env)] := by rfl)
 (hs2 : starEach [e] env = [(false, eval e env)] := by rfl) :
 Ev (model prog w) A env ρ (.Call (.Name x p) [.Call (.Name y p') [e] [] q'] [] q) (.i (uniq ns)) := by
 intro s G Q E hE hQ
 refine Call_Name rfl (aa hl hx hk s G _ _ hE fun f s₁ G₁ k₁ r => ?_)
 have r : f = .builtin "len" := r
 subst r
 refine callWith_method1 (spliced_more ?_ hs1) hs1
 refine Call_Name rfl (aa hset hy hk2 s₁ G₁ _ _ (hE.go k₁) fun f s₂ G₂ k₂ r => ?_)
 have r : f = .type "set" := r
 subst r
 refine PyProof.Rows.callWith_type1 (spliced_more (he s₂ G₂ _ _ ((hE.go k₁).go k₂) fun v s₃ G₃ k₃ r₃ => ?_) hs2) hs2
 refine spliced_none ?_
 obtain ⟨a, us, n, rfl, g, qq⟩ := r₃
 have hlen : us.size = ns.length := by have := qq.length; simpa using this
 refine call_set_list hh ⟨_, k₃.sub _ _ g, rfl, n, rfl⟩ (eO qq) (by erw [hlen]; unfold scanBound; lia) fun h' tk hS hk' => ?_
 refine spliced_none ?_
 obtain ⟨o, es, ep, t, ho, hex, hd, _, _, _, hf, hn⟩ := hS
 refine call_len_set ho hex hd hf (by
  have := firstMet_length_le (fun i => ns.getD i 0) us.size
  lia) ?_
 have K : Kp s₃ G₃ { s₃ with heap := h', toks := tk + 1 + 1 } G₃ := ⟨⟨h', _, rfl, fun b o e => hk' b o (Heap.lt_size e) e⟩, fun ux ux e => e, fun b o e => hk' b o (Heap.lt_size (k₃.sub _ _ e)) (k₃.sub _ _ e), fun ux ux e => .inl e⟩
 have e : es.size = uniq ns := by erw [hn, hlen]; rfl
 erw [e]
 exact hQ _ _ _ (((k₁.tr k₂).tr k₃).tr K) ⟨_, rfl⟩
noncomputable def flat : D → Bool
 | .i _ => true
 | .b _ => true
 | .s x => PyData.strOk x
 | _ => false
theorem flat_ok {d : D} (h : flat d = true) : dat d = true ∧ (toP d).canLay0 = true ∧ (toP d).depth = 0 := by
 cases d <;> simp_all [flat, dat, toP, PyData.canLay0, PyData.depth]
theorem flatL : ∀ {ds : List D}, (∀ d ∈ ds, flat d = true) → ki ds = true ∧ PyData.canLayAll0 (gR ds) = true ∧ PyData.depthAll (gR ds) = 0
 | [], _ => ⟨rfl, rfl, rfl⟩
 | d :: ds, h => by
   obtain ⟨a, b, c⟩ := flat_ok (h d (.head _))
   obtain ⟨a', b', c'⟩ := flatL fun x hx => h x (.tail _ hx)
   simp [ki, gR, PyData.canLayAll0, PyData.depthAll, a, b, c, a', b', c']
theorem lq {ds : List D} (h : ∀ d ∈ ds, flat d = true) : okd (.l ds) = true := by
 obtain ⟨a, b, c⟩ := flatL h
 simp [okd, dat, toP, SeqAt.shaped, PyData.canLay0, PyData.depth, a, b, c]
theorem eX {ns : List Int} : okd (.l (ns.map .i)) = true := lq fun d hd => by obtain ⟨x, _, rfl⟩ := List.mem_map.mp hd; rfl
theorem fY {ws : List Str} (h : ∀ x ∈ ws, PyData.strOk x = true) : okd (.l (ws.map .s)) = true := lq fun d hd => by obtain ⟨x, hx, rfl⟩ := List.mem_map.mp hd; exact h x hx
theorem iu : ∀ (ns ms : List Int), eqd (.l (ns.map .i)) (.l (ms.map .i)) = (ns == ms)
 | [], [] => rfl
 | [], _ :: _ => rfl
 | _ :: _, [] => rfl
 | a :: ns, b :: ms => by
   have ih := iu ns ms
   unfold eqd at ih ⊢
   simp only [toP, List.map_cons, gR, PyData.eqv, PyData.eqvAll] at ih ⊢
   erw [ih]; rfl
theorem iE : ∀ (ns ms : List Str), eqd (.l (ns.map .s)) (.l (ms.map .s)) = (ns == ms)
 | [], [] => rfl
 | [], _ :: _ => rfl
 | _ :: _, [] => rfl
 | a :: ns, b :: ms => by
   have ih := iE ns ms
   unfold eqd at ih ⊢
   simp only [toP, List.map_cons, gR, PyData.eqv, PyData.eqvAll] at ih ⊢
   erw [ih]; rfl
theorem cM {ns ms : List Int} (hu : A.units + 64 < cLine) : Cmp (model prog w) A .NotEq (.l (ns.map .i)) (.l (ms.map .i)) (.b (!(ns == ms))) := by
 rw [← iu]; exact eW eX eX hu
theorem gM {ns ms : List Int} (hu : A.units + 64 < cLine) : Cmp (model prog w) A .Eq (.l (ns.map .i)) (.l (ms.map .i)) (.b (ns == ms)) := by
 rw [← iu]; exact iP eX eX hu
theorem li {ns ms : List Str} (hn : ∀ x ∈ ns, PyData.strOk x = true) (hm : ∀ x ∈ ms, PyData.strOk x = true) (hu : A.units + 64 < cLine) : Cmp (model prog w) A .NotEq (.l (ns.map .s)) (.l (ms.map .s)) (.b (!(ns == ms))) := by
 rw [← iE]; exact eW (fY hn) (fY hm) hu
theorem kq {ns ms : List Str} (hn : ∀ x ∈ ns, PyData.strOk x = true) (hm : ∀ x ∈ ms, PyData.strOk x = true) (hu : A.units + 64 < cLine) : Cmp (model prog w) A .Eq (.l (ns.map .s)) (.l (ms.map .s)) (.b (ns == ms)) := by
 rw [← iE]; exact iP (fY hn) (fY hm) hu
theorem nB {x : Str} (h : PyData.strOk x = true) : okd (.s x) = true := by
 simp [okd, dat, toP, SeqAt.shaped, PyData.canLay0, PyData.depth, h]
theorem lp {x y : Str} (hx : PyData.strOk x = true) (hy : PyData.strOk y = true) (hu : A.units + 64 < cLine) : Cmp (model prog w) A .NotEq (.s x) (.s y) (.b (!(x == y))) := eW (a := .s x) (b := .s y) (nB hx) (nB hy) hu
theorem pI {x y : Str} (hx : PyData.strOk x = true) (hy : PyData.strOk y = true) (hu : A.units + 64 < cLine) : Cmp (model prog w) A .Eq (.s x) (.s y) (.b (x == y)) := iP (a := .s x) (b := .s y) (nB hx) (nB hy) hu
theorem i9 : ∀ (l acc : List Int), (l.foldl step_dedup acc).length ≤ acc.length + l.length ∧ ((l.foldl step_dedup acc).length = acc.length + l.length ↔ l.Nodup ∧ ∀ x ∈ l, x ∉ acc)
 | [], acc => by simp
 | x :: l, acc => by
   erw [List.foldl_cons]
   obtain ⟨h1, h2⟩ := i9 l (step_dedup acc x)
   by_cases hx : x ∈ acc
   · have e : step_dedup acc x = acc := by unfold step_dedup; simp [hx]
     rw [e] at h1 h2 ⊢
     simp only [List.length_cons]
     refine ⟨by lia, ⟨fun h => by lia, fun h => absurd hx (h.2 x (.head _))⟩⟩
   · have e : (step_dedup acc x).length = acc.length + 1 ∧ ∀ y, y ∈ step_dedup acc x ↔ y = x ∨ y ∈ acc := by unfold step_dedup; simp [hx, or_comm]
     rw [e.1] at h1 h2
     simp only [List.length_cons]
     refine ⟨by lia, ?_⟩
     have e3 : acc.length + (l.length + 1) = acc.length + 1 + l.length := by lia
     erw [e3, h2, List.nodup_cons]
     simp only [e.2, List.mem_cons, forall_eq_or_imp, not_or]
     constructor
     · rintro ⟨a, b⟩
       exact ⟨⟨fun q => (b x q).1 rfl, a⟩, hx, fun y hy => (b y hy).2⟩
     · rintro ⟨⟨a, b⟩, _, c⟩
       exact ⟨b, fun y hy => ⟨fun q => a (q ▸ hy), c y hy⟩⟩
theorem md (ns : List Int) : uniq ns = ns.length ↔ ns.Nodup := by
 unfold uniq firstMet
 have e : (List.range ns.length).map (fun i => ns.getD i 0) = ns := by
  apply List.ext_getElem
  · simp
  · intro i h1 h2; simp [h2]
 erw [e]
 have := (i9 ns []).2
 simpa using this
end
set_option tactic.hygienic false
noncomputable def kK (w hi limit : Nat) (sub : List Nat) : Nat → List Nat → Nat → Nat → Nat → List Nat
 | 0, _, _, _, _ => []
 | m + 1, L, i, free, n => if ((n < limit ∧ free ≤ i) ∧ i + w ≤ hi) ∧ (L.take w == sub) = true then i :: kK w hi limit sub m L.tail (i + 1) (i + w) (n + 1) else kK w hi limit sub m L.tail (i + 1) free n
theorem ig (s sub : Str) (hi limit : Nat) : ∀ (m i : Nat) (st : Array Nat × Nat), (forIn (List.range' i m) st (StrLaws.occBody s sub hi limit)).run.fst.toList = st.1.toList ++ kK sub.length hi limit sub.cps.toList m (s.cps.toList.drop i) i st.2 st.1.size
 | 0, i, st => by simp [kK]
 | m + 1, i, st => by
   erw [List.range'_succ, List.forIn_cons]
   unfold StrLaws.occBody
   erw [kK, StrLaws.subAt_eq]
   have et : (s.cps.toList.drop i).tail = s.cps.toList.drop (i + 1) := by erw [List.tail_drop]
   split
   · refine (ig s sub hi limit m (i + 1) _).trans ?_
     erw [et]
     simp
   · refine (ig s sub hi limit m (i + 1) _).trans ?_
     erw [et]
theorem occF_eq (x y : Str) : Builtin.Str.occurrences x y 0 x.length (x.length + 1) = kK y.length x.length (x.length + 1) y.cps.toList (x.length + 1) x.cps.toList 0 0 0 := by
 erw [StrLaws.occ_eq]
 have := ig x y x.length (x.length + 1) (x.length + 1 - 0) 0 (#[], 0)
 erw [this]
 simp
noncomputable def subL (L : List Nat) (i j : Nat) : Str := ⟨((L.drop i).take (j - i)).toArray⟩
theorem subL_eq (x : Str) (i j : Nat) : Builtin.Str.strSub x i j = subL x.cps.toList i j := by
 apply Str.ext'
 apply Array.toList_inj.mp
 erw [StrLaws.strSub_toList]
 rfl
noncomputable def jL (x y : Str) : List Str :=
 let L := x.cps.toList
 let cuts := kK y.length L.length (L.length + 1) y.cps.toList (L.length + 1) L 0 0 0
 ((0 :: cuts.map (· + y.length)).zip (cuts ++ [L.length])).map fun p => subL L p.1 p.2
theorem l8 (x y : Str) : cx x y = jL x y := by
 unfold cx jL Builtin.Str.partsBetween
 erw [occF_eq]
 have e : x.cps.toList.length = x.length := by simp [Str.length]
 simp only [e]
 apply List.map_congr_left
 intro p _
 exact subL_eq x p.1 p.2
noncomputable def nm (i : Nat) : List Nat := match i with
 | 0 => [79, 80, 84, 73, 77, 73, 90, 69, 68]
 | 1 => [78, 69, 87, 76, 79, 67, 65, 76, 83]
 | 2 => [86, 65, 82, 65, 82, 71, 83]
 | 3 => [86, 65, 82, 75, 69, 89, 87, 79, 82, 68, 83]
 | 4 => [78, 69, 83, 84, 69, 68]
 | 5 => [71, 69, 78, 69, 82, 65, 84, 79, 82]
 | 6 => [78, 79, 70, 82, 69, 69]
 | 7 => [67, 79, 82, 79, 85, 84, 73, 78, 69]
 | 8 => [73, 84, 69, 82, 65, 66, 76, 69, 95, 67, 79, 82, 79, 85, 84, 73, 78, 69]
 | 9 => [65, 83, 89, 78, 67, 95, 71, 69, 78, 69, 82, 65, 84, 79, 82]
 | i => [48, 120, 48 + 2 ^ (i % 4)] ++ List.replicate (i / 4) 48
noncomputable def mk (L : List Nat) : Str := ⟨L.toArray⟩
theorem mk_list (x : Str) : mk x.cps.toList = x := rfl
theorem nm_eq : ∀ i, i < 32 → (a7 i).cps.toList = nm i := by decide +kernel
theorem e7 {i : Nat} (h : i < 32) : a7 i = mk (nm i) := by rw [← nm_eq i h]; rfl
noncomputable def iR (F : Nat) : List (List Nat) := if F = 0 then [[48, 120, 48]] else ((List.range 32).filter F.testBit).map nm
theorem d4 (F : Nat) : aL F = (iR F).map mk := by
 unfold aL iR
 split
 · rfl
 · erw [List.map_map]
   apply List.map_congr_left
   intro i hi
   exact e7 (List.mem_range.mp (List.mem_filter.mp hi).1)
noncomputable def gO : List (List Nat) → List Nat
 | [] => []
 | [w] => w
 | w :: ws => w ++ [44, 32] ++ gO ws
theorem l3 (ws : List (List Nat)) : ∀ acc : Array Nat, ((ws.map mk).foldl (fun acc p => acc ++ (", ":Str).cps ++ p.cps) acc).toList = acc.toList ++ (ws.map fun w => [44, 32] ++ w).flatten := by
 induction ws with
 | nil => intro acc; simp
 | cons w ws ih =>
   intro acc
   erw [List.map_cons, List.foldl_cons, ih, List.map_cons, List.flatten_cons]
   have e : (", ":Str).cps.toList = [44, 32] := by decide +kernel
   simp only [Array.toList_append, e, mk, List.append_assoc]
theorem rg (ws : List (List Nat)) : (Builtin.Str.glued (", ":Str) (ws.map mk)).cps.toList = gO ws := by
 cases ws with
 | nil => rfl
 | cons w ws =>
   unfold Builtin.Str.glued
   show (((ws.map mk).foldl (fun acc p => acc ++ (", ":Str).cps ++ p.cps) w.toArray)).toList = _
   erw [l3]
   have : ∀ (ws : List (List Nat)) (w : List Nat), w ++ (ws.map fun w => [44, 32] ++ w).flatten = gO (w :: ws) := by
    intro ws
    induction ws with
    | nil => intro w; simp [gO]
    | cons v ws ih =>
      intro w
      erw [List.map_cons, List.flatten_cons, gO, ← ih v]
      · simp
      · simp
   exact this ws w
noncomputable def jW (L : List Nat) : List (List Nat) :=
 let cuts := kK 2 L.length (L.length + 1) [44, 32] (L.length + 1) L 0 0 0
 ((0 :: cuts.map (· + 2)).zip (cuts ++ [L.length])).map fun p => (L.drop p.1).take (p.2 - p.1)
theorem mj (x : Str) : cx x (", ":Str) = (jW x.cps.toList).map mk := by
 erw [l8]
 unfold jL jW
 have e : (", ":Str).cps.toList = [44, 32] := by decide +kernel
 have e2 : (", ":Str).length = 2 := by decide +kernel
 erw [e, e2, List.map_map]
 rfl
noncomputable def gU (base mask : Nat) : List (List Nat) := if mask > 0 then ((List.range 5).filter fun k => mask.testBit k).map fun k => nm (base + k) else [[48, 120, 48]]
noncomputable def chk (base mask : Nat) : Bool :=
 let ws := iR (mask <<< base)
 let L := gO ws
 decide (L.length ≤ 1000) && (jW L == ws) && (ws == gU base mask) && decide (ws.foldl (fun a w => a + w.length + 2) 0 ≤ 1000) && decide (2 ≤ L.length)
theorem chk_all : ((List.range 28).all fun base => (List.range 32).all fun mask => chk base mask) = true := by decide +kernel
theorem pz (ws : List (List Nat)) : ∀ n : Nat, (ws.map mk).foldl (fun a (x : Str) => a + x.length + (", ":Str).length) n = ws.foldl (fun a w => a + w.length + 2) n := by
 have e2 : (", ":Str).length = 2 := by decide +kernel
 induction ws with
 | nil => intro n; rfl
 | cons w ws ih =>
   intro n
   erw [List.map_cons, List.foldl_cons, List.foldl_cons, ih]
   erw [e2]
   rfl
theorem kR (x : Str) : 1 ≤ Builtin.Str.strKind x := by
 unfold Builtin.Str.strKind
 repeat' split
 all_goals decide
theorem iw {base mask : Nat} (hb : base < 28) (hm : mask < 32) :
 Builtin.Str.tooLong ((aL (mask <<< base)).toArray.foldl (· + ·.length + (", ":Str).length) 0) = false ∧ (cq (mask <<< base)).length ≤ 1000 ∧ 2 ≤ (cq (mask <<< base)).length ∧
 cx (cq (mask <<< base)) (", ":Str) = aL (mask <<< base) ∧ aL (mask <<< base) = (gU base mask).map mk := by
 have h := List.all_eq_true.mp (List.all_eq_true.mp chk_all base (List.mem_range.mpr hb)) mask (List.mem_range.mpr hm)
 unfold chk at h
 simp only [Bool.and_eq_true, decide_eq_true_eq, beq_iff_eq] at h
 obtain ⟨⟨⟨⟨h1, h2⟩, h3⟩, h4⟩, h5⟩ := h
 have e : (cq (mask <<< base)).cps.toList = gO (iR (mask <<< base)) := by
  unfold cq
  erw [d4, rg]
 have el : (cq (mask <<< base)).length = (gO (iR (mask <<< base))).length := by
  rw [← e]; simp [Str.length]
 refine ⟨?_, by erw [el]; exact h1, by erw [el]; exact h5, ?_, ?_⟩
 · erw [d4, List.foldl_toArray, pz]
   unfold Builtin.Str.tooLong
   simp only [decide_eq_false_iff_not, sizeLine_eq]
   lia
 · erw [mj, e, h2, d4]
 · erw [d4, h3]
theorem me {x : Str} (h : 2 ≤ x.length) : (decide (x.length < (", ":Str).length) || decide (Builtin.Str.strKind x < Builtin.Str.strKind (", ":Str))) = false := by
 have e2 : (", ":Str).length = 2 := by decide +kernel
 have e3 : Builtin.Str.strKind (", ":Str) = 1 := by decide +kernel
 have := kR x
 erw [e2, e3]
 simp only [Bool.or_eq_false_iff, decide_eq_false_iff_not]
 lia
theorem due_len (base mask : Nat) : (gU base mask).length ≤ 5 := by
 unfold gU
 split
 · erw [List.length_map]
   exact Nat.le_trans (List.length_filter_le _ _) (by simp)
 · simp
set_option tactic.hygienic false
noncomputable def namesL : List Str := (List.range 32).map a7
theorem ql : ∀ i, i < 32 → ∀ m, m < i → nm m ≠ nm i := by decide +kernel
theorem n7 : ∀ i, i < 32 → nm i ≠ [48, 120, 48] := by decide +kernel
theorem lP {a b : List Nat} (h : mk a = mk b) : a = b := by
 have := congrArg (fun x : Str => x.cps.toList) h
 exact this
theorem gE {i : Nat} (h : i < 32) : namesL[i]? = some (mk (nm i)) := by
 unfold namesL
 erw [List.getElem?_map, List.getElem?_range h, Option.map_some, e7 h]
theorem qU {i m : Nat} (h : i < 32) (hm : m < i) : namesL[m]? ≠ some (mk (nm i)) := by
 erw [gE (by lia)]
 intro q
 exact ql i h m hm (lP (Option.some.inj q))
theorem ji {i : Nat} (h : i < 32) : namesL.idxOf (mk (nm i)) = i := by
 unfold namesL
 have : ∀ (n s : Nat), s ≤ i → i < s + n → s + n ≤ 32 → ((List.range' s n).map a7).idxOf (mk (nm i)) = i - s := by
  intro n
  induction n with
  | zero => intro s h1 h2; lia
  | succ n ih =>
    intro s h1 h2 h3
    erw [List.range'_succ, List.map_cons, List.idxOf_cons, e7 (by lia)]
    by_cases q : s = i
    · subst q; simp
    · have hne : (mk (nm s) == mk (nm i)) = false := beq_eq_false_iff_ne.mpr fun z => ql i h s (by lia) (lP z)
      erw [hne]
      erw [cond_false, ih (s + 1) (by lia) (by lia) (by lia)]
      lia
 erw [List.range_eq_range']
 have := this 32 0 (by lia) (by lia) (by lia)
 simpa using this
noncomputable def dueF (base : Nat) : D → D
 | .i k => .s (a7 (base + k.toNat))
 | d => d
noncomputable def dueP (mask : Nat) : D → Bool
 | .i k => mask.testBit k.toNat
 | _ => false
theorem due_eq {base mask : Nat} (hb : base < 28) (hm : mask > 0) : ((rng 0 5).filter (dueP mask)).map (dueF base) = ((gU base mask).map mk).map .s := by
 unfold gU rng
 erw [if_pos hm, List.filter_map, List.map_map, List.map_map, List.map_map]
 have e : (dueP mask ∘ fun (i : Nat) => D.i (0 + (i : Int))) = fun k => mask.testBit k := by
  funext k
  simp [dueP]
 show List.map _ ((List.range 5).filter _) = _
 erw [e]
 apply List.map_congr_left
 intro k hk
 have hk : k < 5 := List.mem_range.mp (List.mem_filter.mp hk).1
 show D.s (a7 (base + (0 + (k : Int)).toNat)) = D.s (mk (nm (base + k)))
 erw [e7 (by lia), show (0 + (k : Int)).toNat = k by lia]
noncomputable def tieF (base : Nat) : D → D
 | .s x => .i ((namesL.idxOf x : Int) - base + 1)
 | d => d
noncomputable def oG : D → Bool
 | .s x => !(x == Str.ofString "0x0")
 | _ => false
theorem d8 : Str.ofString "0x0" = mk [48, 120, 48] := by
 apply Str.ext'
 decide +kernel
theorem nR : ∀ mask, mask < 32 → ((List.range 5).filter mask.testBit).map (· + 1) = am mask := by decide +kernel
theorem oi : am 0 = [] := by decide +kernel
theorem oE {base mask : Nat} {x : Str} (hx : x ∈ (gU base mask).map mk) (h0 : oG (.s x) = true) : ∃ k, k < 5 ∧ x = mk (nm (base + k)) := by
 obtain ⟨L, hL, rfl⟩ := List.mem_map.mp hx
 unfold gU at hL
 split at hL
 · obtain ⟨k, hk, rfl⟩ := List.mem_map.mp hL
   exact ⟨k, List.mem_range.mp (List.mem_filter.mp hk).1, rfl⟩
 · rw [List.mem_singleton] at hL
   subst hL
   rw [oG, d8] at h0
   simp at h0
theorem ties_eq {base mask : Nat} (hb : base < 28) (hm : mask < 32) : ((((gU base mask).map mk).map D.s).filter oG).map (tieF base) = (am mask).map fun (k : Nat) => D.i (k : Int) := by
 unfold gU
 split
 · erw [List.map_map, List.map_map, List.filter_map, List.map_map, ← nR mask hm, List.map_map]
   have e : ((List.range 5).filter mask.testBit).filter (oG ∘ ((D.s ∘ mk) ∘ fun k => nm (base + k))) = (List.range 5).filter mask.testBit := by
    erw [List.filter_eq_self]
    intro k hk
    have hk : k < 5 := List.mem_range.mp (List.mem_filter.mp hk).1
    show (!(mk (nm (base + k)) == Str.ofString "0x0")) = true
    erw [d8]
    have := beq_eq_false_iff_ne.mpr fun z => n7 (base + k) (by lia) (lP z)
    erw [this]; rfl
   show List.map _ (List.filter _ (List.filter (fun k => mask.testBit k) _)) = _
   erw [e]
   apply List.map_congr_left
   intro k hk
   have hk : k < 5 := List.mem_range.mp (List.mem_filter.mp hk).1
   show D.i ((namesL.idxOf (mk (nm (base + k))) : Int) - base + 1) = D.i ((k + 1 : Nat) : Int)
   erw [ji (by lia)]
   congr 1
   lia
 · have : mask = 0 := by lia
   subst this
   erw [oi]
   simp [oG, d8]
theorem due_ok {base mask : Nat} (hb : base < 28) : ∀ x ∈ (gU base mask).map mk, PyData.strOk x = true := by
 have h : ∀ i, i < 32 → PyData.strOk (mk (nm i)) = true := by decide +kernel
 intro x hx
 obtain ⟨L, hL, rfl⟩ := List.mem_map.mp hx
 unfold gU at hL
 split at hL
 · obtain ⟨k, hk, rfl⟩ := List.mem_map.mp hL
   have := List.mem_range.mp (List.mem_filter.mp hk).1
   exact h _ (by lia)
 · rw [List.mem_singleton] at hL
   subst hL
   decide +kernel
theorem nH {mask k : Nat} (hk : k ∈ am mask) : 1 ≤ k ∧ k < 6 := by
 unfold am at hk
 have := (List.mem_filter.mp hk).1
 simp at this
 lia
theorem qH (mask : Nat) : (am mask).length ≤ 5 := by
 unfold am
 exact Nat.le_trans (List.length_filter_le _ _) (by simp)
theorem q8 : ∀ mask : Nat, mask < 32 → ∀ n, n < 5 → (Builtin.bitAnd ((mask : Int).fdiv (2 ^ n)) 1 == 1) = mask.testBit n := by decide +kernel
noncomputable def bb (par : Nat → Nat) (d w : Nat → Int) : List D := (List.range 6).map fun k => .t [.i (par k : Int), .i (d k), .i (w k)]
theorem dY {par : Nat → Nat} {d w : Nat → Int} {k : Int} (h0 : 0 ≤ k) (h : k < 6) : (bb par d w)[k.toNat]? = some (.t [.i (par k.toNat : Int), .i (d k.toNat), .i (w k.toNat)]) := by
 unfold bb
 erw [List.getElem?_map, List.getElem?_range (by lia)]
 rfl
noncomputable def endF (par : Nat → Nat) : D → D
 | .i k => .i (par k.toNat)
 | d => d
noncomputable def rowF (d : Nat → Int) (k : Nat) : D → D
 | .t [.i a, .i b] => .i (b - d k * a)
 | d => d
noncomputable def wtF (w : Nat → Int) (k : Nat) : D → D
 | .i a => .i (-(w k) ^ 2 * a)
 | d => d
theorem pq (c : Nat → Int) (k : Nat) (r : List Int) : ((((r ++ [0]).zip (0 :: r)).map fun (p : Int × Int) => D.t [.i p.1, .i p.2]).filter fun ux => true).map (rowF c k) = (cu (c k) r).map .i := by
 erw [List.filter_eq_self.mpr (fun ux ux => rfl), List.map_map]
 unfold cu
 erw [List.zip, List.map_zipWith, List.map_zipWith]
 rfl
theorem addz_eq (t r : List Int) : (((t.zip r).map fun (p : Int × Int) => D.t [.i p.1, .i p.2]).filter fun ux => true).map addT = (List.zipWith (· + ·) t r).map .i := by
 erw [List.filter_eq_self.mpr (fun ux ux => rfl), List.map_map]
 erw [List.zip, List.map_zipWith, List.map_zipWith]
 rfl
theorem lX (l : List Nat) : (l.map fun (k : Nat) => (k : Int)).Nodup ↔ l.Nodup := by
 unfold List.Nodup
 erw [List.pairwise_map]
 constructor
 · intro h; exact h.imp fun {a b} q z => q (congrArg _ z)
 · intro h; exact h.imp fun {a b} q z => q (Int.ofNat.inj z)
theorem cast_map (l : List Nat) : l.map (fun (k : Nat) => D.i (k : Int)) = (l.map fun (k : Nat) => (k : Int)).map .i := by erw [List.map_map]; rfl
set_option tactic.hygienic false
noncomputable abbrev jm (g : Heap) (par : Nat → Nat) (d w : Nat → Int) (base : Nat) : List (Str × D) := [(("names":Str), .l (namesL.map .s)), ("parts", .l (bb par d w)), ("base", .i (base : Int)), ("pretty_flags", .g g.get? (.ref 40)), ("len", .v (.builtin "len")), ("set", .v (.type "set")), ("zip", .v (.type "zip")), ("range", .v (.type "range"))]
noncomputable abbrev lh (g : Heap) (par : Nat → Nat) (d w : Nat → Int) (base i : Nat) (tot : List Int) : List (Str × D) := (("ends":Str), .l (((ak par (am i)).map fun (k : Nat) => (k : Int)).map .i)) :: ("ties", .l ((am i).map fun (k : Nat) => .i (k : Int))) :: ("total", .l (tot.map .i)) :: jm g par d w base
theorem gH {α : Type} (f : α → Nat → α) (a : α) (i : Nat) : (List.range (i + 1)).foldl f a = f ((List.range i).foldl f a) i := by
 erw [List.range_succ, List.foldl_append]; rfl
theorem pow_hex : ∀ i, i < 32 → baseText "0x" 16 ((2 : Int) ^ i) = baseText "0x" 16 ((2 ^ i : Nat) : Int) := by
 intro i _
 have e : ((2 ^ i : Nat) : Int) = (2 : Int) ^ i := by push_cast; rfl
 erw [e]
noncomputable def hexF : D → D
 | .i k => .s (baseText "0x" 16 (2 ^ k.toNat))
 | d => d
theorem pg : ([("OPTIMIZED":Str), ("NEWLOCALS":Str), ("VARARGS":Str), ("VARKEYWORDS":Str), ("NESTED":Str), ("GENERATOR":Str), ("NOFREE":Str), ("COROUTINE":Str), ("ITERABLE_COROUTINE":Str), ("ASYNC_GENERATOR":Str)] : List Str).map D.s ++ ((rng 10 32).filter fun ux => true).map hexF = namesL.map .s := by
 erw [List.filter_eq_self.mpr (fun ux ux => rfl)]
 unfold namesL rng
 erw [show (List.range 32) = List.range 10 ++ (List.range 22).map (10 + ·) by decide, List.map_append, List.map_append, List.map_map]
 congr 1
set_option maxRecDepth 100000 in
set_option maxHeartbeats 4000000 in
theorem ct_poly {w' : World} {A : Around} {g : Heap} {p : Program} {loose : List Str} {mean : ExcName → Option Value} {mg mb : Str → Option Value} (X : (hd.heap_39 w'.params).In g) (T : Top p loose mean mg mb g) (par : Nat → Nat) (d w : Nat → Int)
 (hw : ∀ k, k < 6 → w k = 1 ∨ w k = 2) (hd2 : ∀ k, k < 6 → -2 ≤ d k ∧ d k ≤ 2) {base : Nat} (hb : base < 28) (hU : A.units + 67 < cLine) (hA : A.handled = none) (hroom : A.depth + 1 < recursionLimit) :
 Ct (model Challenge.rw_wb0032_01.row.prog w') A g.get? 111 [.l (bb par d w), .i base] (.l ((b9 par d w).map .i)) := by
 intro s G Q E vs hin hle hvs hQ
 refine oN (Z := fun vs => wpAny _ _ (call _ vs _) _ _ _) hvs fun v₁ t₂ r₁ => ?_
 have hfl := fun (A : Around) (hA : A.handled = none) (hr : A.depth < recursionLimit) (mask : Nat) (hm : mask < 32) => qd (A := A) X T (mask <<< base) (by
  erw [Nat.shiftLeft_eq]
  have h1 : 2 ^ base ≤ 2 ^ 27 := Nat.pow_le_pow_right (by decide) (by lia)
  have h2 : mask * 2 ^ base ≤ 31 * 2 ^ 27 := Nat.mul_le_mul (by lia) h1
  exact Nat.lt_of_le_of_lt h2 (by decide)) (iw hb hm).1 (Nat.le_trans (iw hb hm).2.1 (by erw [sizeLine_eq]; decide)) hA hr
 have hroom0 := hroom
 have hroom : A.depth < recursionLimit := by lia
 revert X
 k_fill
 intro X
 have h40 := X 40 _ (by k_is)
 k_dflt (refine' bo (os := []) (ρ := [(("parts":Str), .l (bb par d w)), ("base", .i (base : Int)), ("pretty_flags", .g g.get? (.ref 40)), ("len", .v (.builtin "len")), ("set", .v (.type "set")), ("zip", .v (.type "zip")), ("range", .v (.type "range")), ("hex", .v (.builtin "hex"))]) X T hroom hin hle ?ho ?hcd ?hbody ?hbind ?hclo ?hkind ?hnd ?gl ?bu ?hos ?hod ?hρ ?hrun ?hco ?hgen ?hk; ((case ho | hcd => k_is); (case hnd => decide +kernel); (case hbody | hclo | gl | bu | hco | hgen | hk => exact rfl)); (case hbind => exact BindsTo.of_eq rfl); (case hkind => exact rfl); (case hos => exact List.forall_mem_nil _); (case hod => exact List.nodup_nil))
 case hρ =>
  intro h L hn hc hg hb
  repeat' first | exact List.forall_mem_nil _ | with_reducible refine aM ?_ ?_
  · exact dA hc rfl rfl rfl r₁
  · exact dA hc rfl rfl rfl ⟨_, rfl⟩
  · exact bi hg rfl rfl (mg_of X T.g (by k_is)) hle
  · exact aB hg hb rfl rfl rfl (mg_none_of X T.g (by k_is)) ((T.builtins _ (by decide)).trans (by decide +kernel))
  · exact aB hg hb rfl rfl rfl (mg_none_of X T.g (by k_is)) ((T.builtins _ (by decide)).trans (by decide +kernel))
  · exact aB hg hb rfl rfl rfl (mg_none_of X T.g (by k_is)) ((T.builtins _ (by decide)).trans (by decide +kernel))
  · exact aB hg hb rfl rfl rfl (mg_none_of X T.g (by k_is)) ((T.builtins _ (by decide)).trans (by decide +kernel))
  · exact dH hg hb rfl rfl rfl (mg_none_of X T.g (by k_is)) ((T.builtins _ (by decide)).trans (by decide +kernel))
 case hrun =>
  intro s₁ L f₁
  refine cp fun E' => ?_
  have hz1 : (1 : Nat) ≤ 1000000 := by decide
  refine ao (d := .l (namesL.map .s)) f₁ (ah (ag (q7 aT (mz (ws := [("OPTIMIZED":Str), ("NEWLOCALS":Str), ("VARARGS":Str), ("VARKEYWORDS":Str), ("NESTED":Str), ("GENERATOR":Str), ("NOFREE":Str), ("COROUTINE":Str), ("ITERABLE_COROUTINE":Str), ("ASYNC_GENERATOR":Str)]) ?hw1 ?hw2 ?hw3 ?hw4)) (bj hexF (fun ux => true) [(("hex":Str), .v (.builtin "hex"))] (fun d => [(("place":Str), d), ("hex", .v (.builtin "hex"))])
   (aH (m6 m0) (ab ad (ab ad ae)) (iS hA (by decide) (by decide) (by decide) (by decide))) rfl (by decide +kernel) rfl (by decide +kernel) ?hcap ?has ?ht ?he ?hz) (bE ?hz2)) (congrArg D.l pg)) ar af fun s₂ G₂ f₂ => ?_
  case hw1 => decide +kernel
  case hw2 => erw [sizeLine_eq]; decide +kernel
  case hw3 => erw [sizeLine_eq]; decide +kernel
  case hw4 => decide +kernel
  case hcap => exact fun C h G hE => aV hE rfl rfl rfl cv
  case has => exact fun C d hd => ax rfl af
  case ht => exact fun C d ux => bD
  case he =>
   intro C d hd _
   obtain ⟨k, h0, h1, rfl⟩ := hJ hd
   refine aK m1 (ab (ag ad (aa m0) (ik (by lia) ?hp)) ae) (lY ?hh)
   case hp =>
    have e : Builtin.Int.intBits 2 = 2 := by decide +kernel
    erw [e]
    show ((2 : Nat) : Int) * k ≤ 2 ^ 27
    lia
   case hh =>
    have := ny k.toNat (by lia)
    erw [pow_hex _ (by lia)]
    exact Nat.le_trans this (by erw [sizeLine_eq]; decide)
  case hz => erw [a8]; decide
  case hz2 =>
   erw [List.filter_eq_self.mpr (fun ux ux => rfl), List.length_map, List.length_map, a8]
   decide
  refine ao (d := .l ((List.replicate 7 (0 : Int)).map .i)) f₂ (ah (ag (bc (ab ad ae) hz1) ad (iM (by decide) (by simp) (by decide))) rfl) ar af fun s₃ G₃ f₃ => ?_
  refine dh (xs := rng 0 32) (fun i => ((("total":Str), .l ((((List.range i).map am).foldl (cI par d w) (List.replicate 7 0)).map .i)) :: jm g par d w base)) (fun ux => [])
   (f₃.say (ρ' := ((("total":Str), .l ((List.replicate 7 (0 : Int)).map .i)) :: jm g par d w base)) eS) (aH (m6 m2) (ab ad ae) (ca hA (by decide) (by decide))) ?turn ?hend
  case hend =>
   intro s' G' E' f
   have e32 : (rng 0 32).length = 32 := by erw [a8]; rfl
   rw [e32] at f
   refine wpAny_execs_nil ?_
   refine bJ f (aa m0) fun v s₆ G₆ f₆ r => ?_
   exact hQ v s₆ G₆ f₆.kp r
  case turn =>
   intro i e hdi
   have hi : i < 32 := by
    have := (List.getElem?_eq_some_iff.mp hdi).1
    rw [a8] at this
    exact this
   have := dZ hdi
   rw [Int.zero_add] at this
   subst this
   refine ⟨_, bS ar af, fun wr s₀ G₀ s G E' Qt kQt f => ?_⟩
   have hplen := (ix par d w ((List.range i).map am) (List.replicate 7 0) (by simp)).1
   have cJ : ((List.range (i + 1)).map am).foldl (cI par d w) (List.replicate 7 0) = cI par d w (((List.range i).map am).foldl (cI par d w) (List.replicate 7 0)) (am i) := by
    erw [List.range_succ, List.map_append, List.foldl_append]
    rfl
   rw [cJ] at kQt
   generalize ((List.range i).map am).foldl (cI par d w) (List.replicate 7 0) = tot at f hplen kQt
   obtain ⟨ok1, ok2, ok3, ok4, ok5⟩ := iw hb hi
   have hwd : ∀ x ∈ aL (i <<< base), PyData.strOk x = true := by erw [ok5]; exact due_ok hb
   have hdl : (aL (i <<< base)).length ≤ 5 := by erw [ok5, List.length_map]; exact due_len base i
   have e2 : (", ":Str).length = 2 := by decide +kernel
   refine ao (d := .l ((aL (i <<< base)).map .s)) f (ah (dB (cg m5 h40 rfl (ab (ah (ag (aa m0) (aa m4) (pH (by lia) (by lia) ?hsh)) ?hsc) ae) (hfl (A.deeper _) hA hroom0 i hi)) (ab aT ae) (og (me ok3) (by erw [e2]; rfl) (Nat.le_trans ok2 (by erw [sizeLine_eq]; decide)) ?hpl)) ?hcv) ar af fun s₄ G₄ f₄ => ?_
   case hsh =>
    erw [Int.natAbs_natCast]
    exact Nat.lt_of_lt_of_le hi (by decide)
   case hsc =>
    erw [Int.toNat_natCast, Nat.shiftLeft_eq]
    push_cast
    rfl
   case hpl =>
    erw [ok4, sizeLine_eq]
    lia
   case hcv => erw [ok4]
   refine bB (c := false) f₄ (aX (aj (aa m0) (ah (dc (c := decide ((i : Int) > 0)) (d := .l ((aL (i <<< base)).map .s)) (e := .l ((aL (i <<< base)).map .s)) (aj (aa m1) ad gu) (fun h => ah (bj (dueF base) (dueP i) [(("mask":Str), .i (i : Int)), ("names", .l (namesL.map .s)), ("base", .i (base : Int))] (fun d => [(("k":Str), d), ("mask", .i (i : Int)), ("names", .l (namesL.map .s)), ("base", .i (base : Int))])
    (aH (m6 m4) (ab ad ae) (ca hA (by decide) (by decide))) rfl (by decide +kernel) rfl (by decide +kernel) ?hcap ?has ?ht ?he ?hz) ?hcv1) (fun h => ah (bc (ab aT ae) hz1) ?hcv2)) (ite_self _)) (li hwd hwd hU)) (by simp)) (fun ux ux ux hc => by cases hc) fun s₅ G₅ f₅ ux => wpAny_execs_nil ?_
   case hcap => exact fun C h G hE => aV hE rfl rfl rfl cv
   case has => exact fun C d hd => ax rfl af
   case ht =>
    intro C d hd
    obtain ⟨k, h0, h1, rfl⟩ := hJ hd
    refine dO (aX (aj (ag (ag (aa m1) (aa m0) (op_shr h0)) ad iA) ad eA) ?_)
    exact q8 i hi k.toNat (by lia)
   case he =>
    intro C d hd _
    obtain ⟨k, h0, h1, rfl⟩ := hJ hd
    refine aF (k := (base : Int) + k) (aa m2) (ag (aa m3) (aa m0) bA) (by lia) (by lia) ?_
    have e : ((base : Int) + k).toNat = base + k.toNat := by lia
    erw [e, List.getElem?_map, gE (by lia)]
    show some (D.s _) = some (D.s (a7 _))
    erw [e7 (by lia)]
   case hz => erw [a8]; decide
   case hcv1 =>
    have h : (i : Int) > 0 := of_decide_eq_true h
    erw [due_eq hb (by lia), ok5]
   case hcv2 =>
    have h : ¬ (i : Int) > 0 := of_decide_eq_false h
    have h : i = 0 := by lia
    subst h
    erw [ok5]
    show D.l [D.s ("0x0":Str)] = D.l [D.s (mk [48, 120, 48])]
    erw [d8]
   refine dp (ρ' := ((("ties":Str), .l ((am i).map fun (k : Nat) => .i (k : Int))) :: ("total", .l (tot.map .i)) :: jm g par d w base)) (tieF base) oG [(("names":Str), .l (namesL.map .s)), ("base", .i (base : Int))] (fun d => [(("word":Str), d), ("names", .l (namesL.map .s)), ("base", .i (base : Int))]) f₅ (bg hA (aa m0)) rfl (by decide +kernel) rfl (by decide +kernel) ?hcap ?has ?ht ?he ?hz ar ?hst fun s₆ G₆ f₆ => ?_
   case hcap => exact fun C h G hE => aV hE rfl rfl rfl cv
   case has => exact fun C d hd => ax rfl af
   case ht =>
    intro C d hd
    obtain ⟨x, hx, rfl⟩ := List.mem_map.mp hd
    exact dO (aj (aa m0) aT (lp (hwd x hx) (by decide +kernel) hU))
   case he =>
    intro C d hd hp
    obtain ⟨x, hx, rfl⟩ := List.mem_map.mp hd
    rw [ok5] at hx
    obtain ⟨k, hk, rfl⟩ := oE hx hp
    refine ah (ag (ag (dB (aa m1) (ab (aa m0) ae) (rh (gE (by lia)) (fun m hm => qU (by lia) hm) ?hln)) (aa m2) bL) ad bA) ?hcv
    case hln => unfold namesL; erw [List.length_map, List.length_range]; decide
    case hcv =>
     show _ = D.i ((namesL.idxOf (mk (nm (base + k))) : Int) - base + 1)
     erw [ji (by lia)]
   case hz => erw [List.length_map]; lia
   case hst =>
    erw [ok5, ties_eq hb hi]
    exact aU
   have htl := qH i
   refine gs (names := [("ends":Str), ("row":Str)]) (ρ' := ((("ends":Str), .l (((ak par (am i)).map fun (k : Nat) => (k : Int)).map .i)) :: ("row", .l (([1] : List Int).map .i)) :: ("ties", .l ((am i).map fun (k : Nat) => .i (k : Int))) :: ("total", .l (tot.map .i)) :: jm g par d w base)) hA f₆ (bp (ab (ah (ag (aa m0) (bj (endF par) (fun ux => true) [(("parts":Str), .l (bb par d w))] (fun e => [(("k":Str), e), ("parts", .l (bb par d w))])
    (bg hA (aa m0)) rfl (by decide +kernel) rfl (by decide +kernel) ?hcap ?has ?ht ?he ?hz) (bE ?hz2)) ?hcv) (ab (bc (ds := ([1] : List Int).map .i) (ab ad ae) hz1) ae)) (Nat.le_of_ble_eq_true rfl)) (aI ar af (aI ar af bq)) fun s₇ G₇ f₇ => ?_
   case hcap => exact fun C h G hE => aV hE rfl rfl rfl cv
   case has => exact fun C e hd => ax rfl af
   case ht => exact fun C e ux => bD
   case he =>
    intro C e he _
    obtain ⟨k, hk, rfl⟩ := List.mem_map.mp he
    obtain ⟨h1, h2⟩ := nH hk
    exact au (k := 0) (aF (aa m1) (aa m0) (by lia) (by lia) (dY (by lia) (by lia))) ad (by decide) (by decide) rfl
   case hz => erw [List.length_map]; lia
   case hz2 =>
    erw [List.filter_eq_self.mpr (fun ux ux => rfl), List.length_map, List.length_map, List.length_map]
    lia
   case hcv =>
    erw [List.filter_eq_self.mpr (fun ux ux => rfl), List.map_map]
    unfold ak
    erw [List.map_append, List.map_append, List.map_map, List.map_map, List.map_map]
    rfl
   have hel : (ak par (am i)).length ≤ 10 := by
    unfold ak
    erw [List.length_append, List.length_map]
    lia
   have hq : ∀ n : Int, n ≤ 10 → n < 2 ^ 63 := fun n h => by lia
   refine bB (c := decide (ak par (am i)).Nodup) f₇ (aX (aj (nS hA (m6 m2) (m6 m3) (aa m0) ?hz) (aK (m6 m2) (ab (aa m0) ae) (cP (n := ((ak par (am i)).length : Int)) ?hlen ?hz2)) eA) ?hcv) (fun s₈ G₈ f₈ hc => ?_) (fun s₈ G₈ f₈ hc => ?_)
   case hz => erw [List.length_map]; lia
   case hz2 => lia
   case hlen => erw [List.length_map, List.length_map]
   case hcv =>
    have e := md ((ak par (am i)).map fun (k : Nat) => (k : Int))
    rw [lX, List.length_map] at e
    by_cases h : (ak par (am i)).Nodup
    · erw [decide_eq_true h, e.mpr h]; exact beq_self_eq_true _
    · erw [decide_eq_false h]
      exact beq_eq_false_iff_ne.mpr fun q => h (e.mp (Int.ofNat.inj q))
   · have hnd : (ak par (am i)).Nodup := of_decide_eq_true hc
     refine dh (xs := rng 0 6) (fun j => ((("row":Str), .l (((List.range j).foldl (fun r k => if k ∈ ak par (am i) then r else cu (d k) r) [1]).map .i)) :: lh g par d w base i tot)) (fun ux => [])
      (f₈.say (ρ' := ((("row":Str), .l (([1] : List Int).map .i)) :: lh g par d w base i tot)) eS) (aH (m6 m5) (ab ad ae) (ca hA (by decide) (by decide))) ?turn ?hend
     case turn =>
      intro j e hdj
      have hj : j < 6 := by
       have := (List.getElem?_eq_some_iff.mp hdj).1
       rw [a8] at this
       exact this
      have := dZ hdj
      rw [Int.zero_add] at this
      subst this
      refine ⟨_, bS ar af, fun wr s₀ G₀ s G E' Qt kQt f => ?_⟩
      have hrl := iW d (ak par (am i)) (List.range j) [1]
      rw [gH] at kQt
      generalize (List.range j).foldl (fun r k => if k ∈ ak par (am i) then r else cu (d k) r) [1] = r at f hrl kQt
      have hrl : r.length ≤ 7 := by
       rw [List.length_range] at hrl
       have : ([1] : List Int).length = 1 := rfl
       lia
      refine ao (d := .l ((if j ∈ ak par (am i) then r else cu (d j) r).map .i)) (ρ' := ((("row":Str), .l ((if j ∈ ak par (am i) then r else cu (d j) r).map .i)) :: lh g par d w base i tot)) f (ah (dc (c := decide (j ∈ ak par (am i))) (d := .l (r.map .i)) (e := .l ((cu (d j) r).map .i)) (aX (aj (aa m0) (aa m2) cmp_in) ?hct) (fun ux => aa m1) (fun ux => ah (bj (rowF d j) (fun ux => true) [(("k":Str), .i (j : Int)), ("parts", .l (bb par d w))] (fun e => match e with | .t [a, b] => [(("b":Str), b), (("a":Str), a), ("k", .i (j : Int)), ("parts", .l (bb par d w))] | _ => [])
       (dj (ys := ((r ++ [0]).zip (0 :: r)).map fun (p : Int × Int) => D.t [.i p.1, .i p.2]) (aH (m6 m5) (ab (ag (aa m1) (bc (ab ad ae) hz1) (bE ?hz1)) (ab (ag (bc (ab ad ae) hz1) (aa m1) (bE ?hz2)) ae)) (hX hA)) ?hcz) rfl (by decide +kernel) rfl (by decide +kernel) ?hcap ?has ?ht ?he ?hz) ?hcv1)) ?hcv2) ar aU fun s₂ G₂ f₂ => ?_
      case hct =>
       erw [List.any_map]
       by_cases h : j ∈ ak par (am i)
       · erw [decide_eq_true h]
         exact List.any_eq_true.mpr ⟨j, h, beq_self_eq_true _⟩
       · erw [decide_eq_false h]
         refine List.any_eq_false.mpr fun x hx q => h ?_
         have q : (x : Int) = (j : Int) := eq_of_beq q
         have q : x = j := Int.ofNat.inj q
         rw [← q]; exact hx
      case hz1 => erw [List.length_map]; simp; lia
      case hz2 => erw [List.length_map]; simp; lia
      case hcz =>
       rw [← gp]
       congr 1
       erw [List.map_append]
       rfl
      case hcap => exact fun C h G hE => aV hE rfl rfl rfl cv
      case has =>
       intro C e he
       obtain ⟨⟨x, y⟩, _, rfl⟩ := List.mem_map.mp he
       exact bN hA (ax rfl af) (ax rfl af)
      case ht => exact fun C d ux => bD
      case he =>
       intro C e he _
       obtain ⟨⟨x, y⟩, _, rfl⟩ := List.mem_map.mp he
       refine ag (aa m0) (ag (au (k := 1) (aF (aa m3) (aa m2) (by lia) (by lia) (dY (by lia) (by lia))) ad (by decide) (by decide) rfl) (aa m1) (dw (IntMulOk.of_left ?_))) bL
       erw [Int.toNat_natCast]
       have := hd2 j hj
       have h : d j = -2 ∨ d j = -1 ∨ d j = 0 ∨ d j = 1 ∨ d j = 2 := by lia
       rcases h with h | h | h | h | h <;> erw [h] <;> decide +kernel
      case hz => erw [List.length_map, List.length_zip]; simp; lia
      case hcv1 => erw [pq]
      case hcv2 =>
       by_cases h : j ∈ ak par (am i)
       · erw [decide_eq_true h, if_pos rfl, if_pos h]
       · erw [decide_eq_false h, if_neg (by decide), if_neg h]
      exact wpAny_execs_nil (kQt _ _ f₂)
     case hend =>
      intro s' G' E' f
      have e6 : (rng 0 6).length = 6 := by erw [a8]; rfl
      rw [e6] at f
      have hbr : (List.range 6).foldl (fun r k => if k ∈ ak par (am i) then r else cu (d k) r) [1] = l6 d (ak par (am i)) [0, 1, 2, 3, 4, 5] := rfl
      have hrl := iW d (ak par (am i)) [0, 1, 2, 3, 4, 5] [1]
      rw [hbr] at f
      have hrl : (l6 d (ak par (am i)) [0, 1, 2, 3, 4, 5]).length ≤ 7 := hrl
      have hps : cI par d w tot (am i) = List.zipWith (· + ·) tot (gY w (am i) (l6 d (ak par (am i)) [0, 1, 2, 3, 4, 5]) ++ List.replicate 7 0) := by
       unfold cI
       erw [if_pos hnd]
      rw [hps] at kQt
      generalize l6 d (ak par (am i)) [0, 1, 2, 3, 4, 5] = r at f hrl kQt
      refine wpAny_execs_nil ?_
      refine dh (xs := (am i).map fun (k : Nat) => .i (k : Int)) (fun j => ((("row":Str), .l ((gY w ((am i).take j) r).map .i)) :: lh g par d w base i tot)) (fun ux => [])
       f (bg hA (aa m2)) ?turn ?hend
      case turn =>
       intro j e hdj
       rw [List.getElem?_map] at hdj
       obtain ⟨k, hk, rfl⟩ := Option.map_eq_some_iff.mp hdj
       refine ⟨_, bS ar af, fun wr s₀ G₀ s G E' Qt kQt f => ?_⟩
       have hk6 := nH (List.mem_of_getElem? hk)
       have e1 : gY w ((am i).take (j + 1)) r = (gY w ((am i).take j) r).map fun a => -(w k) ^ 2 * a := by
        erw [List.take_add_one, hk]
        unfold gY
        erw [List.foldl_append]
        rfl
       rw [e1] at kQt
       have hrl2 := iJ w ((am i).take j) r
       generalize gY w ((am i).take j) r = r at f hrl2 kQt
       refine dp (ρ' := ((("row":Str), .l ((r.map fun a => -(w k) ^ 2 * a).map .i)) :: lh g par d w base i tot)) (wtF w k) (fun ux => true) [(("k":Str), .i (k : Int)), ("parts", .l (bb par d w))] (fun e => [(("a":Str), e), ("k", .i (k : Int)), ("parts", .l (bb par d w))]) f (bg hA (aa m1)) rfl (by decide +kernel) rfl (by decide +kernel) ?hcap ?has ?ht ?he ?hz ar ?hst fun s₂ G₂ f₂ => ?_
       case hcap => exact fun C h G hE => aV hE rfl rfl rfl cv
       case has => exact fun C e hd => ax rfl af
       case ht => exact fun C d ux => bD
       case he =>
        intro C e he _
        obtain ⟨x, _, rfl⟩ := List.mem_map.mp he
        refine ah (ag (gI (ag (au (k := 2) (aF (aa m2) (aa m1) (by lia) (by lia) (dY (by lia) (by lia))) ad (by decide) (by decide) rfl) ad (ik (by decide) ?hp)) dT) (aa m0) (dw (IntMulOk.of_left ?hm))) ?hcv
        case hp =>
         erw [Int.toNat_natCast]
         rcases hw k hk6.2 with h | h <;> erw [h] <;> decide +kernel
        case hm =>
         erw [Int.toNat_natCast]
         rcases hw k hk6.2 with h | h <;> erw [h] <;> decide +kernel
        case hcv =>
         erw [Int.toNat_natCast]
         rfl
       case hz => erw [List.length_map]; lia
       case hst =>
        erw [List.filter_eq_self.mpr (fun ux ux => rfl), List.map_map]
        have e2 : (r.map (wtF w k ∘ D.i)) = (r.map fun a => -(w k) ^ 2 * a).map .i := by erw [List.map_map]; rfl
        erw [e2]
        exact aU
       exact wpAny_execs_nil (kQt _ _ f₂)
      case hend =>
       intro s' G' E' f
       rw [List.length_map, List.take_length] at f
       refine wpAny_execs_nil ?_
       have hrl2 := iJ w (am i) r
       generalize gY w (am i) r = r at f hrl2 kQt
       refine dp (ρ' := ((("total":Str), .l ((List.zipWith (· + ·) tot (r ++ List.replicate 7 0)).map .i)) :: jm g par d w base)) addT (fun ux => true) [] (fun d => match d with | .t [a, b] => [(("b":Str), b), (("a":Str), a)] | _ => []) f
        (dj (ys := (tot.zip (r ++ List.replicate 7 0)).map fun (p : Int × Int) => D.t [.i p.1, .i p.2]) (aH (m6 m4) (ab (aa m3) (ab (ag (aa m0) (ag (bc (ab ad ae) hz1) ad (iM (by decide) (by simp) (by decide))) (bE ?hz1)) ae)) (hX hA)) ?hcz) rfl (by decide +kernel) rfl (by decide +kernel) ?hcap ?has ?ht ?he ?hz ar ?hst fun s₂ G₂ f₂ => ?_
       case hz1 => erw [List.length_map]; simp; lia
       case hcz =>
        rw [← gp]
        congr 1
        erw [List.map_append]
        rfl
       case hcap => exact fun C h G hE => aV hE rfl rfl rfl cv
       case has =>
        intro C e he
        obtain ⟨⟨x, y⟩, _, rfl⟩ := List.mem_map.mp he
        exact bN hA (ax rfl af) (ax rfl af)
       case ht => exact fun C d ux => bD
       case he =>
        intro C e he _
        obtain ⟨⟨x, y⟩, _, rfl⟩ := List.mem_map.mp he
        exact ag (aa m1) (aa m0) bA
       case hz => erw [List.length_map, List.length_zip]; simp; lia
       case hst =>
        erw [addz_eq]
        exact aU
       exact wpAny_execs_nil (wpAny_execs_nil (kQt _ _ f₂))
   · have hnd : ¬ (ak par (am i)).Nodup := of_decide_eq_false hc
     have hps : cI par d w tot (am i) = tot := by
      unfold cI
      erw [if_neg hnd]
     rw [hps] at kQt
     exact wpAny_execs_nil (wpAny_execs_nil (kQt _ _ (f₈.say eS)))
set_option tactic.hygienic false
noncomputable def Held (G : Mem) (h : Heap) (os : List (Addr × Kd)) : Prop := (∀ p ∈ os, G p.1 = none ∧ ∃ o, h.get? p.1 = some o ∧ p.2.ok G o) ∧ (os.map (·.1)).Nodup
section
variable {prog : Program} {w : World} {A : Around} {wr : List Addr} {s₀ s s' : Shared} {G₀ G G' : Mem} {env : Env} {ρ ρ' ρ₁ : List (Str × D)} {os os' rest : List (Addr × Kd)}
theorem Held.go (h : Held G s.heap os) (k : Kp s G s' G') : Held G' s'.heap os :=
 ⟨fun p hp => by
  obtain ⟨g, o, e, q⟩ := h.1 p hp
  exact ⟨bw k e g, o, k.hp _ _ e, q.mono k.le⟩, h.2⟩
theorem Fm.held (f : Fm wr s₀ G₀ env ρ os s G) : Held G s.heap os := ⟨fun p hp => let ⟨g, _, r⟩ := f.S p hp; ⟨g, r⟩, f.N⟩
theorem Held.left (h : Held G s.heap (os ++ rest)) : Held G s.heap os := ⟨fun p hp => h.1 p (List.mem_append_left _ hp), by
 have := h.2
 rw [List.map_append, List.nodup_append] at this
 exact this.1⟩
theorem Held.sub (h : Held G s.heap os) (q : List.Sublist os' os) : Held G s.heap os' := ⟨fun p hp => h.1 p (q.subset hp), (q.map _).nodup h.2⟩
theorem Fm.perm (f : Fm wr s₀ G₀ env ρ os s G) (p : os.Perm os') : Fm wr s₀ G₀ env ρ os' s G := by
 have pm : (os.map (·.1)).Perm (os'.map (·.1)) := p.map _
 refine ⟨f.K, f.E, f.O, fun q hq => f.S q (p.mem_iff.mpr hq), (pm.nodup_iff).mp f.N, fun b hb => f.F b ?_, fun b hb => ?_⟩
 · rcases List.mem_append.mp hb with z | z
   · exact List.mem_append_left _ z
   · exact List.mem_append_right _ (pm.mem_iff.mpr z)
 · rcases List.mem_append.mp (f.W b hb) with z | z
   · exact List.mem_append_left _ z
   · exact List.mem_append_right _ (pm.mem_iff.mp z)
structure Eff (os os' : List (Addr × Kd)) (s : Shared) (G : Mem) (s' : Shared) (G' : Mem) : Prop where
 K : KpB (os.map (·.1)) s G s' G'
 H : Held G' s'.heap os'
 new : ∀ p ∈ os', p.1 ∈ os.map (·.1) ∨ s.heap.get? p.1 = none
theorem Eff.of (h : Held G s.heap os) (k : Kp s G s' G') : Eff os os s G s' G' := ⟨KpB.of k, h.go k, fun p hp => .inl (List.mem_map_of_mem hp)⟩
theorem Fm.eff (f : Fm (os.map (·.1)) s₀ G₀ env ρ os' s G) (q : List.Sublist ρos os') : Eff os ρos s₀ G₀ s G := by
 refine ⟨f.K, f.held.sub q, fun p hp => ?_⟩
 exact f.F p.1 (List.mem_append_right _ (List.mem_map_of_mem (q.subset hp)))
theorem Fm.called (f : Fm wr s₀ G₀ env ρ (os ++ rest) s G) (e : Eff os os' s G s' G') (hw : ∀ b ∈ os.map (·.1), b ∈ wr → b ∈ os'.map (·.1)) : Fm wr s₀ G₀ env ρ (os' ++ rest) s' G' := by
 have nin : ∀ {b}, b ∈ own env → b ∉ os.map (·.1) := fun {b} hb hm => by
  obtain ⟨p, hp, rfl⟩ := List.mem_map.mp hm
  exact (f.S p (List.mem_append_left _ hp)).2.1 (.tail _ (.tail _ hb))
 have nfar : ∀ {b}, b ∈ far env → b ∉ os.map (·.1) := fun {b} hb hm => by
  obtain ⟨p, hp, rfl⟩ := List.mem_map.mp hm
  exact (f.S p (List.mem_append_left _ hp)).2.1 hb
 have out : ∀ b, (∃ o, s.heap.get? b = some o) → G b = none → G' b = none := fun b ⟨o, eo⟩ g => by
  cases q : G' b with
  | none => rfl
  | some o' => rcases e.K.new b o' q with z | z
               · rw [g] at z; cases z
               · rw [eo] at z; cases z
 have kl : ∀ o, s.heap.get? env.locals = some o → s'.heap.get? env.locals = some o := fun o => e.K.hp _ o (nin (.head _))
 have kg : ∀ o, s.heap.get? env.globals = some o → s'.heap.get? env.globals = some o := fun o => e.K.hp _ o (nfar (.head _))
 have kb : ∀ o, s.heap.get? env.builtins = some o → s'.heap.get? env.builtins = some o := fun o => e.K.hp _ o (nfar (.tail _ (.head _)))
 have kc : ∀ {x c}, (x, c) ∈ env.cells → ∀ o, s.heap.get? c = some o → s'.heap.get? c = some o := fun {x c} hx o => e.K.hp _ o (nin (.tail _ (List.mem_map_of_mem (f := fun (x : Str × Addr) => x.2) hx)))
 have nd := f.N
 rw [List.map_append, List.nodup_append] at nd
 refine f.turned (e.K.mono fun b hb => List.mem_append_right _ (by erw [List.map_append]; exact List.mem_append_left _ hb)) ⟨f.E.fn, ?_, ?_, e.K.sub, fun p hp => ?_⟩ ⟨?_, out _ (f.out (.head _)).2 f.O.gn, f.O.gl, f.O.bu, f.O.fn, fun y c hy => ⟨?_, ?_⟩, f.O.ap⟩ (fun p hp => ?_) ?_ (fun p hp => ?_) (fun b hb => ?_)
 · obtain ⟨m, n⟩ := f.E.gl; exact ⟨m, n.at' kg⟩
 · obtain ⟨m, n⟩ := f.E.bu; exact ⟨m, n.at' kb⟩
 · obtain ⟨u, hl, hu⟩ := f.E.at' p hp
   refine ⟨u, ?_, hu.mono e.K.le⟩
   cases hl with
   | loc x b c => exact .loc x (b.at' kl) c
   | cel x b c => obtain ⟨o, e, q⟩ := c; exact .cel x b ⟨o, kc (aJ b) _ e, q⟩
   | fre x b c n => obtain ⟨o, e, q⟩ := c; exact .fre x b ⟨o, kc (aJ b) _ e, q⟩ n
   | glo x b c => exact .glo x (b.at' kg) c
   | bui x b c d e => exact .bui x (b.at' kg) c (d.at' kb) e
   | glN x b c => exact .glN x (b.at' kg) c
   | buN x b c d e => exact .buN x (b.at' kg) c (d.at' kb) e
 · obtain ⟨m, n⟩ := f.O.ns; exact ⟨m, n.at' kl⟩
 · obtain ⟨⟨v, o, e, q⟩, _⟩ := f.O.cel y c hy
   exact ⟨v, o, kc hy _ e, q⟩
 · obtain ⟨⟨v, o, e, q⟩, g⟩ := f.O.cel y c hy
   exact out _ ⟨o, e⟩ g
 · rcases List.mem_append.mp hp with q | q
   · obtain ⟨g, r⟩ := e.H.1 p q
     refine ⟨g, ?_, r⟩
     rcases e.new p q with z | z
     · obtain ⟨p', hp', ez⟩ := List.mem_map.mp z
       rw [← ez]
       exact (f.S p' (List.mem_append_left _ hp')).2.1
     · intro hm
       rcases List.mem_cons.mp hm with y | hm
       · obtain ⟨m, o, _, _, eo, _⟩ := f.E.gl
         rw [← y, z] at eo; cases eo
       · rcases List.mem_cons.mp hm with y | hm
         · obtain ⟨m, o, _, _, eo, _⟩ := f.E.bu
           rw [← y, z] at eo; cases eo
         · obtain ⟨_, o, eo⟩ := f.out (List.mem_append_left _ hm)
           rw [z] at eo; cases eo
   · obtain ⟨g, n, o, eo, r⟩ := f.S p (List.mem_append_right _ q)
     have ne : p.1 ∉ os.map (·.1) := fun z => nd.2.2 _ z _ (List.mem_map_of_mem (f := fun (x : Addr × Kd) => x.1) q) rfl
     exact ⟨out _ ⟨o, eo⟩ g, n, o, e.K.hp _ _ ne eo, r.mono e.K.le⟩
 · erw [List.map_append, List.nodup_append]
   refine ⟨e.H.2, nd.2.1, fun a ha b hb hab => ?_⟩
   obtain ⟨p, hp, rfl⟩ := List.mem_map.mp ha
   rcases e.new p hp with z | z
   · exact nd.2.2 _ z _ hb hab
   · obtain ⟨q, hq, rfl⟩ := List.mem_map.mp hb
     obtain ⟨_, _, o, eo, _⟩ := f.S q (List.mem_append_right _ hq)
     rw [← hab, z] at eo; cases eo
 · rcases List.mem_append.mp hp with q | q
   · rcases e.new p q with z | z
     · left; erw [List.map_append]; exact List.mem_append_left _ z
     · exact .inr z
   · left; erw [List.map_append]; exact List.mem_append_right _ (List.mem_map_of_mem q)
 · rcases List.mem_append.mp (f.W b hb) with q | q
   · exact List.mem_append_left _ q
   · rw [List.map_append] at q
     refine List.mem_append_right _ ?_
     erw [List.map_append]
     rcases List.mem_append.mp q with z | z
     · exact List.mem_append_left _ (hw b z hb)
     · exact List.mem_append_right _ z
end
noncomputable def EvF (M : Model) (A : Around) (wr : List Addr) (s₀ : Shared) (G₀ : Mem) (env : Env) (ρ : List (Str × D)) (os : List (Addr × Kd)) (e : Expr) (d : D) (os' : List (Addr × Kd)) : Prop :=
 ∀ (s : Shared) (G : Mem) (Q E : Value → Shared → Prop), Fm wr s₀ G₀ env ρ os s G → (∀ v s' G', Fm wr s₀ G₀ env ρ os' s' G' → Le G G' → Rp G' d v → Q v s') → wpAny M A (eval e env) Q E s
noncomputable def ow (M : Model) (A : Around) (wr : List Addr) (s₀ : Shared) (G₀ : Mem) (env : Env) (ρ : List (Str × D)) (os : List (Addr × Kd)) (e : Expr) (c : Bool) (os' : List (Addr × Kd)) : Prop :=
 ∀ (s : Shared) (G : Mem) (Q : Bool → Shared → Prop) (E : Value → Shared → Prop), Fm wr s₀ G₀ env ρ os s G → (∀ s' G', Fm wr s₀ G₀ env ρ os' s' G' → Le G G' → Q c s') → wpAny M A (isTrue e env (eval e env)) Q E s
noncomputable def EvK (M : Model) (A : Around) (env : Env) (ρ : List (Str × D)) (kws : List Keyword) (ds : List D) : Prop :=
 ∀ (pos : Pos) (s : Shared) (G : Mem) (Q : List Value → Shared → Prop) (E : Value → Shared → Prop), En s.heap G env ρ → OutL s G ds Q → wpAny M A (evalAll ((backToKw pos (keywordEach kws env)).map (·.2))) Q E s
theorem Le.tr {G G' G'' : Mem} (a : Le G G') (b : Le G' G'') : Le G G'' := fun x o e => b x o (a x o e)
theorem Le.rf (G : Mem) : Le G G := fun ux ux e => e
section
variable {prog : Program} {w : World} {A : Around} {wr : List Addr} {s₀ s s' : Shared} {G₀ G G' : Mem} {env : Env} {ρ ρ' ρ₁ : List (Str × D)} {os os' os₁ os₂ rest : List (Addr × Kd)} {stm : List Stmt} {Q : Flow → Shared → Prop} {E : Value → Shared → Prop}
theorem aO {e : Expr} {d : D} (h : Ev (model prog w) A env ρ e d) : EvF (model prog w) A wr s₀ G₀ env ρ os e d os :=
 fun s G Q E f hQ => h s G Q E f.E fun v s' G' k r => hQ v s' G' (f.go k) k.le r
theorem cD {e : Expr} {d d' : D} (h : EvF (model prog w) A wr s₀ G₀ env ρ os e d os') (q : d = d') : EvF (model prog w) A wr s₀ G₀ env ρ os e d' os' := q ▸ h
theorem tstf_of {e : Expr} {c : Bool} (h : Tst (model prog w) A env ρ e c) : ow (model prog w) A wr s₀ G₀ env ρ os e c os :=
 fun s G Q E f hQ => h s G Q E f.E fun s' G' k => hQ s' G' (f.go k) k.le
theorem i7 {e : Expr} {d d' : Bool} (h : ow (model prog w) A wr s₀ G₀ env ρ os e d os') (q : d = d') : ow (model prog w) A wr s₀ G₀ env ρ os e d' os' := q ▸ h
theorem fw {l r : Expr} {op : CmpOp} {pos : Pos} {da db : D} {c : Bool} (ha : EvF (model prog w) A wr s₀ G₀ env ρ os l da os₁) (hb : EvF (model prog w) A wr s₀ G₀ env ρ os₁ r db os₂) (ho : Cmp (model prog w) A op da db (.b c))
 (hm : behindInMarks op r = false := by with_unfolding_all rfl) : ow (model prog w) A wr s₀ G₀ env ρ os (.Compare l [op] [r] pos) c os₂ := by
 intro s G Q E f hQ
 exact wpAny_isTrue_Compare1 (ha s G _ _ f fun a s₁ G₁ f₁ le₁ ra => hb s₁ G₁ _ _ f₁ fun b s₂ G₂ f₂ le₂ rb => ho s₂ G₂ _ _ a b f₂.E.sub (ra.mono le₂) rb fun v s₃ G₃ k₃ r => by
  have r : v = .bool c := r
  subst r
  exact wpAny_pure (hQ s₃ G₃ (f₂.go k₃) ((le₁.tr le₂).tr k₃.le))) hm
theorem evf_item_t {value slice : Expr} {pos : Pos} {xs : List D} {k : Int} {d : D} (hv : EvF (model prog w) A wr s₀ G₀ env ρ os value (.t xs) os₁) (hi : Ev (model prog w) A env ρ slice (.i k)) (h0 : 0 ≤ k) (hk : k < 2 ^ 63) (hx : xs[k.toNat]? = some d)
 (hs : ∀ o u, subscripted slice false (.ref o) (.int k u) = operate [.ref o, .int k u] (getItem (.ref o) (.int k u)) := by intro _ _; with_unfolding_all rfl) :
 EvF (model prog w) A wr s₀ G₀ env ρ os (.Subscript value slice pos) d os₁ := by
 intro s G Q E f hQ
 refine Subscript_ (hv s G _ _ f fun o s₁ G₁ f₁ le₁ r₁ => hi s₁ G₁ _ _ f₁.E fun i s₂ G₂ k₂ r₂ => ?_)
 obtain ⟨u, rfl⟩ := r₂
 obtain ⟨a, its, rfl, hl, hsz, q⟩ := bW k₂.sub (r₁.mono k₂.le)
 obtain ⟨x, hx', rx⟩ := q.get hx
 have hlt : k.toNat < its.size := by
  erw [hsz]; exact (List.getElem?_eq_some_iff.mp hx).1
 refine kba_turn (value' := PySem.Expr.Name (PySem.Str.ofString "_") ⟨0, 0, 0, 0⟩) (fun ux => rfl) (item_tuple (j := k.toNat) hl (by lia) hk ?_ (by simpa using hx') (hQ x s₂ G₂ (f₁.go k₂) (le₁.tr k₂.le) rx) (hs _ _) (fun ux => rfl))
 unfold seqIndex?
 have hneg : ¬ k < 0 := by lia
 simp only [hneg, if_false]
 erw [if_pos (by simp; lia)]
theorem jq {e₁ e₂ : Expr} {pos : Pos} {d₁ d₂ : D} (h₁ : EvF (model prog w) A wr s₀ G₀ env ρ os e₁ d₁ os₁) (h₂ : EvF (model prog w) A wr s₀ G₀ env ρ os₁ e₂ d₂ os₂)
 (he : starEach [e₁, e₂] env = [(false, eval e₁ env), (false, eval e₂ env)] := by rfl) (he2 : starEach [e₂] env = [(false, eval e₂ env)] := by rfl) : EvF (model prog w) A wr s₀ G₀ env ρ os (.List [e₁, e₂] pos) (.l [d₁, d₂]) os₂ := by
 intro s G Q E f hQ
 refine List_ (spliced_more (h₁ s G _ _ f fun v s₁ G₁ f₁ le₁ r₁ => spliced_more (h₂ s₁ G₁ _ _ f₁ fun v₂ s₂ G₂ f₂ le₂ r₂ => spliced_none ?_) he2) (by erw [he, he2]))
 exact lA (ds := [d₁, d₂]) f₂.E.sub ⟨_, _, rfl, r₁.mono le₂, _, _, rfl, r₂, rfl⟩ (Nat.le_of_ble_eq_true rfl) fun v s₃ G₃ k₃ r => hQ v s₃ G₃ (f₂.go k₃) ((le₁.tr le₂).tr k₃.le) r
theorem dk {x : Str} {p' pos : Pos} {value : Expr} {d : D} (f : Fm wr s₀ G₀ env ρ os s G) (hv : EvF (model prog w) A wr s₀ G₀ env ρ os value d os₁) (hk : Knd env x) (hs : eg x d ρ ρ')
 (h : ∀ s' G', Fm wr s₀ G₀ env ρ' os₁ s' G' → Le G G' → wpAny (model prog w) A (execs stm env) Q E s')
 (hsw : swapsWith value (some (.Name x p')) pos.line env = pure false := by rfl) : wpAny (model prog w) A (execs (.Assign [.Name x p'] value pos :: stm) env) Q E s :=
 wpAny_execs_cons (wpAny_Assign_Name (hv s G _ _ f fun v s₁ G₁ f₁ le r => f₁.set hk r hs fun s₂ f₂ => h s₂ G₁ f₂ le) hsw)
theorem jS {test : Expr} {body orelse : List Stmt} {pos : Pos} {c : Bool} (f : Fm wr s₀ G₀ env ρ os s G) (ht : ow (model prog w) A wr s₀ G₀ env ρ os test c os₁)
 (hb : ∀ s' G', Fm wr s₀ G₀ env ρ os₁ s' G' → Le G G' → c = true → wpAny (model prog w) A (execs body env) (dC (model prog w) A env stm Q E) E s')
 (ho : ∀ s' G', Fm wr s₀ G₀ env ρ os₁ s' G' → Le G G' → c = false → wpAny (model prog w) A (execs orelse env) (dC (model prog w) A env stm Q E) E s') :
 wpAny (model prog w) A (execs (.If test body orelse pos :: stm) env) Q E s := by
 refine wpAny_execs_cons (wpAny_If (ht s G _ _ f fun s₁ G₁ f₁ le => ?_))
 cases c with
 | true => exact hb s₁ G₁ f₁ le rfl
 | false => exact ho s₁ G₁ f₁ le rfl
theorem go_retF {e : Expr} {pos : Pos} {d : D} (f : Fm wr s₀ G₀ env ρ os s G) (hv : EvF (model prog w) A wr s₀ G₀ env ρ os e d os₁) (h : ∀ v s' G', Fm wr s₀ G₀ env ρ os₁ s' G' → Rp G' d v → Q (.ret v) s') : wpAny (model prog w) A (execs (.Return (some e) pos :: stm) env) Q E s :=
 wpAny_execs_cons (wpAny_Return_some (hv s G _ _ f fun v s₁ G₁ f₁ ux r => h v s₁ G₁ f₁ r))
theorem go_exprF {e : Expr} {pos : Pos} {d : D} (f : Fm wr s₀ G₀ env ρ os s G) (hv : EvF (model prog w) A wr s₀ G₀ env ρ os e d os₁) (h : ∀ s' G', Fm wr s₀ G₀ env ρ os₁ s' G' → Le G G' → wpAny (model prog w) A (execs stm env) Q E s')
 (hi : interactive env = false := by rfl) (hs : swapsWith e none pos.line env = pure false := by rfl) : wpAny (model prog w) A (execs (.Expr e pos :: stm) env) Q E s :=
 de (hv s G _ _ f fun v s₁ G₁ f₁ le ux => h s₁ G₁ f₁ le) hi hs
theorem bl : EvK (model prog w) A env ρ [] [] := fun pos s G Q E hE hQ => kwAll_nil (hQ _ s G (Kp.rf hE.sub) rfl)
theorem bV {name : Str} {e : Expr} {p : Pos} {kws : List Keyword} {d : D} {ds : List D} (h : Ev (model prog w) A env ρ e d) (hr : EvK (model prog w) A env ρ kws ds) : EvK (model prog w) A env ρ (⟨some name, e, p⟩ :: kws) (d :: ds) := by
 intro pos s G Q E hE hQ
 exact kwAll_cons (h s G _ _ hE fun v s₁ G₁ k₁ r => hr pos s₁ G₁ _ _ (hE.go k₁) fun vs s₂ G₂ k₂ r₂ => hQ (v :: vs) s₂ G₂ (k₁.tr k₂) ⟨v, vs, rfl, r.mono k₂.le, r₂⟩)
theorem cY {x : Str} {p pos : Pos} {a : Addr} {e : Expr} {es : List Expr} {kws : List Keyword} {kn : List Str} {dF d : D} {ds kds : List D} (hf : (x, dF) ∈ ρ) (hv : ∀ G v, Rp G dF v → v = .ref a)
 (ho : ∀ s G, Fm wr s₀ G₀ env ρ (os ++ rest) s G → ∃ o fd, s.heap.get? a = some o ∧ o.data = .func fd) (ha : EvL (model prog w) A env ρ (e :: es) ds) (hkw : EvK (model prog w) A env ρ kws kds)
 (hc : ∀ s G vs ks Q E, Fm wr s₀ G₀ env ρ (os ++ rest) s G → RpL G ds vs → RpL G kds ks → (∀ v s' G', Eff os os' s G s' G' → Rp G' d v → Q v s') → wpAny (model prog w) A (call (.ref a) vs (kn.zip ks)) Q E s)
 (hw : ∀ b ∈ os.map (·.1), b ∈ os'.map (·.1))
 (hall : ∀ pos, (backToKw pos (keywordEach kws env)).all (·.1.isSome) = true := by intro _; rfl) (hkn : ∀ pos, (backToKw pos (keywordEach kws env)).filterMap (·.1) = kn := by intro _; rfl)
 (hx : (x == ("__debug__" : Str)) = false := by decide) (hk : (env.kindOf x).isSome = true := by rfl) (he : starEach (e :: es) env = (false, eval e env) :: starEach es env := by rfl) :
 EvF (model prog w) A wr s₀ G₀ env ρ (os ++ rest) (.Call (.Name x p) (e :: es) kws pos) d (os' ++ rest) := by
 intro s G Q E f hQ
 refine wpAny_Call_Name_kw (aa hf hx hk s G _ _ f.E fun fv s₁ G₁ k₁ r => ?_)
 obtain rfl : _ := hv _ _ r
 have f₁ := f.go k₁
 obtain ⟨o, fd, ho₁, hd⟩ := ho s₁ G₁ f₁
 refine callWith_function_kw (o := o) (fd := fd) (evalArgs_kw2 (hall pos) (ha pos s₁ G₁ _ _ f₁.E fun vs s₂ G₂ k₂ r₂ => hkw pos s₂ G₂ _ _ (f₁.go k₂).E fun ks s₃ G₃ k₃ r₃ => ?_) he)
 refine ⟨⟨k₃.hp _ _ (k₂.hp _ _ ho₁), hd⟩, ?_⟩
 have f₃ := (f₁.go k₂).go k₃
 erw [hkn pos]
 exact hc s₃ G₃ vs ks _ _ f₃ (r₂.mono k₃.le) r₃ fun v s₄ G₄ ef r₄ => hQ v s₄ G₄ (f₃.called ef fun b hb ux => hw b hb) (((k₁.le.tr k₂.le).tr k₃.le).tr ef.K.le) r₄
theorem c8 {test : Expr} {body orelse : List Stmt} {pos : Pos} (Inv : Nat → List (Str × D) → List (Addr × Kd) → Prop) (IE : List (Str × D) → List (Addr × Kd) → Prop) (n₀ : Nat)
 (f : Fm wr s₀ G₀ env ρ os s G) (h0 : Inv n₀ ρ os)
 (turn : ∀ n ρi osi, Inv n ρi osi → ∃ c, Tst (model prog w) A env ρi test c ∧ (c = false → IE ρi osi) ∧ (c = true → ∀ (s : Shared) (G : Mem) (E' : Value → Shared → Prop), Fm wr s₀ G₀ env ρi osi s G →
  wpAny (model prog w) A (execs body env) (fun fl s₃ => match fl with
   | .next | .cont => ∃ m ρ' os' G', m < n ∧ Inv m ρ' os' ∧ Fm wr s₀ G₀ env ρ' os' s₃ G'
   | .brk => False
   | .ret v => False) E' s))
 (hend : ∀ ρ' os' s' G' E', IE ρ' os' → Fm wr s₀ G₀ env ρ' os' s' G' → wpAny (model prog w) A (execs orelse env) (dC (model prog w) A env stm Q E) E' s') :
 wpAny (model prog w) A (execs (.While test body orelse pos :: stm) env) Q E s := by
 refine wpAny_execs_cons (wpAny_While ?_)
 refine codeAny_whileLoop (fun k s' => ∃ ρi osi G', Inv k ρi osi ∧ Fm wr s₀ G₀ env ρi osi s' G') ?_ n₀ ⟨ρ, os, G, h0, f⟩
 rintro k s' ⟨ρi, osi, G', hI, fi⟩
 obtain ⟨c, ht, hE, hb⟩ := turn k ρi osi hI
 refine ht s' G' _ _ fi.E fun s₁ G₁ k₁ => ?_
 have f₁ := fi.go k₁
 cases c with
 | false =>
   erw [if_neg (by decide)]
   refine wpAny_mono (hend _ _ _ _ _ (hE rfl) f₁) (fun fl s₃ h₃ => ?_) fun ux ux h => h
   cases fl <;> exact h₃
 | true =>
   erw [if_pos rfl]
   refine wpAny_mono (hb rfl _ _ (notedBy (model prog w) A env fun e s' => cameBackBy (model prog w) A env E e s') f₁) (fun fl s₃ h₃ => ?_) fun ux ux h => h
   cases fl with
   | next => obtain ⟨m, ρ', os', G'', hm, hI', g⟩ := h₃; exact ⟨m, hm, ρ', os', G'', hI', g⟩
   | cont => obtain ⟨m, ρ', os', G'', hm, hI', g⟩ := h₃; exact ⟨m, hm, ρ', os', G'', hI', g⟩
   | brk => exact h₃.elim
   | ret v => exact h₃.elim
end
set_option tactic.hygienic false
noncomputable def bz (p : Nat → Bool) (lo hi : Nat) : Nat := lo + (List.range' lo (hi - lo)).countP p
noncomputable def bQ (p : Nat → Bool) (lo hi : Nat) : Prop := ∀ i j, lo ≤ i → i ≤ j → j < hi → p j = true → p i = true
theorem jZ (p : Nat → Bool) (lo : Nat) : bz p lo lo = lo := by unfold bz; simp
theorem g7 {p : Nat → Bool} {lo mid hi : Nat} (h : bQ p lo hi) (h1 : lo ≤ mid) (h2 : mid < hi) (hp : p mid = true) : bz p lo hi = bz p (mid + 1) hi := by
 unfold bz
 have e : List.range' lo (hi - lo) = List.range' lo (mid + 1 - lo) ++ List.range' (mid + 1) (hi - (mid + 1)) := by
  have := List.range'_append (s := lo) (m := mid + 1 - lo) (n := hi - (mid + 1)) (step := 1)
  rw [show lo + 1 * (mid + 1 - lo) = mid + 1 by lia, show mid + 1 - lo + (hi - (mid + 1)) = hi - lo by lia] at this
  exact this.symm
 erw [e, List.countP_append]
 have : (List.range' lo (mid + 1 - lo)).countP p = mid + 1 - lo := by
  have := (List.countP_eq_length (p := p) (l := List.range' lo (mid + 1 - lo))).mpr fun i hi' => by
   rw [List.mem_range'_1] at hi'
   exact h i mid (by lia) (by lia) h2 hp
  rw [List.length_range'] at this
  exact this
 erw [this]
 lia
theorem eR {p : Nat → Bool} {lo mid hi : Nat} (h : bQ p lo hi) (h1 : lo ≤ mid) (h2 : mid < hi) (hp : p mid = false) : bz p lo hi = bz p lo mid := by
 unfold bz
 have e : List.range' lo (hi - lo) = List.range' lo (mid - lo) ++ List.range' mid (hi - mid) := by
  have := List.range'_append (s := lo) (m := mid - lo) (n := hi - mid) (step := 1)
  rw [show lo + 1 * (mid - lo) = mid by lia, show mid - lo + (hi - mid) = hi - lo by lia] at this
  exact this.symm
 erw [e, List.countP_append]
 have : (List.range' mid (hi - mid)).countP p = 0 := by
  refine List.countP_eq_zero.mpr fun i hi' q => ?_
  rw [List.mem_range'_1] at hi'
  rw [h mid i h1 (by lia) (by lia) q] at hp
  cases hp
 erw [this]
 lia
theorem dN {prog : Program} {w : World} {A : Around} : Cmp (model prog w) A .Is .n .n (.b true) := by
 rintro s G Q E _ _ hG rfl rfl hQ
 exact is_none_none (hQ _ _ _ (Kp.rf hG) rfl)
theorem qj {prog : Program} {w : World} {A : Around} {k : Int} : Cmp (model prog w) A .Is (.i k) .n (.b false) := by
 rintro s G Q E _ _ hG ⟨t, rfl⟩ rfl hQ
 exact PyProof.Rows.is_int_none (hQ _ _ _ (Kp.rf hG) rfl)
theorem lj {prog : Program} {w : World} {A : Around} {a : Addr} : Cmp (model prog w) A .Is (.v (.ref a)) .n (.b false) := by
 rintro s G Q E _ _ hG rfl rfl hQ
 exact PyProof.Rows.is_ref_none (hQ _ _ _ (Kp.rf hG) rfl)
noncomputable def jT (M : Model) (A : Around) (Gs : Mem) (os : List (Addr × Kd)) (fa : Addr) (κ : Int → Int) (dom : Int → Prop) (base : Heap) : Prop :=
 (∃ o fd, base.get? fa = some o ∧ o.data = .func fd) ∧ fa ∉ os.map (·.1) ∧ ∀ (A' : Around) (s : Shared) (G : Mem) (Q E : Value → Shared → Prop) (vs : List Value) (c : Int), A'.handled = none → A'.depth = A.depth + 1 → A'.units = A.units + 3 → dom c →
  (∀ b o, b ∉ os.map (·.1) → base.get? b = some o → s.heap.get? b = some o) → In G s.heap → Le Gs G → RpL G [.i c] vs → Held G s.heap os → (∀ v s' G', Eff os os s G s' G' → Rp G' (.i (κ c)) v → Q v s') → wpAny M A' (call (.ref fa) vs) Q E s
noncomputable abbrev bsR (lo hi : D) (xs : List Int) (x : Int) (k : D) : List (Str × D) := [(("lo":Str), lo), (("hi":Str), hi), ("a", .l (xs.map .i)), ("x", .i x), (("key":Str), k), ("len", .v (.builtin "len"))]
inductive BisIn (u : Tok) (n : Nat) (v : Value) (x : Int) (t : Tok) : List Value → Nat → Nat → D → Bool → Value → Value → Prop
 | p : BisIn u n v x t [v, .int x t] 0 n .n true (.int 0 u) .none
 | g {lo hi : Nat} {t₃ t₄ : Tok} (h : lo ≤ hi) (k : hi ≤ n) : BisIn u n v x t [v, .int x t, .int (lo : Int) t₃, .int (hi : Int) t₄] lo hi (.i (hi : Int)) false (.int (lo : Int) t₃) (.int (hi : Int) t₄)
theorem BisIn.el {u : Tok} {n : Nat} {v : Value} {x : Int} {t : Tok} {vs : List Value} {lo hi : Nat} {hD : D} {c : Bool} {loV hiV : Value} (h : BisIn u n v x t vs lo hi hD c loV hiV) {P : List Value → Value → Value → Prop} (hp : P [v, .int x t] (.int 0 u) .none) (hg : ∀ (lo hi : Nat) t₃ t₄, P [v, .int x t, .int (lo : Int) t₃, .int (hi : Int) t₄] (.int (lo : Int) t₃) (.int (hi : Int) t₄)) : P vs loV hiV := by
 cases h
 · exact hp
 · exact hg _ _ _ _
theorem BisIn.le {u : Tok} {n : Nat} {v : Value} {x : Int} {t : Tok} {vs : List Value} {lo hi : Nat} {hD : D} {c : Bool} {loV hiV : Value} (h : BisIn u n v x t vs lo hi hD c loV hiV) : lo ≤ hi ∧ hi ≤ n := by
 cases h
 · exact ⟨Nat.zero_le _, Nat.le_refl _⟩
 · exact ⟨‹_›, ‹_›⟩
theorem BisIn.rl {u : Tok} {n : Nat} {v : Value} {x : Int} {t : Tok} {vs : List Value} {lo hi : Nat} {hD : D} {c : Bool} {loV hiV : Value} (h : BisIn u n v x t vs lo hi hD c loV hiV) (G : Mem) : Rp G (.i (lo : Int)) loV ∧ Rp G hD hiV := by
 cases h
 · exact ⟨⟨_, rfl⟩, rfl⟩
 · exact ⟨⟨_, rfl⟩, _, rfl⟩
theorem BisIn.cm {u : Tok} {n : Nat} {v : Value} {x : Int} {t : Tok} {vs : List Value} {lo hi : Nat} {hD : D} {c : Bool} {loV hiV : Value} (h : BisIn u n v x t vs lo hi hD c loV hiV) {prog : Program} {w : World} {A : Around} : Cmp (model prog w) A .Is hD .n (.b c) := by
 cases h
 · exact dN
 · exact qj
theorem BisIn.ct {u : Tok} {n : Nat} {v : Value} {x : Int} {t : Tok} {vs : List Value} {lo hi : Nat} {hD : D} {c : Bool} {loV hiV : Value} (h : BisIn u n v x t vs lo hi hD c loV hiV) (e : c = true) : hi = n := by
 cases h
 · rfl
 · cases e
theorem BisIn.cf {u : Tok} {n : Nat} {v : Value} {x : Int} {t : Tok} {vs : List Value} {lo hi : Nat} {hD : D} {c : Bool} {loV hiV : Value} (h : BisIn u n v x t vs lo hi hD c loV hiV) (e : c = false) : hD = .i (hi : Int) := by
 cases h
 · cases e
 · rfl
theorem pJ {prog : Program} {w : World} {A : Around} {wr : List Addr} {s₀ s : Shared} {G₀ G : Mem} {env : Env} {ρ ρ' : List (Str × D)} {os : List (Addr × Kd)} {rest : List Stmt} {Q : Flow → Shared → Prop} {E : Value → Shared → Prop} {test : Expr} {body orelse : List Stmt} {pos : Pos} {c : Bool} (f : Fm wr s₀ G₀ env ρ os s G) (ht : Tst (model prog w) A env ρ test c)
 (k : ∀ s' G', Fm wr s₀ G₀ env ρ' os s' G' → wpAny (model prog w) A (execs rest env) Q E s')
 (hb : (∀ s' G', Fm wr s₀ G₀ env ρ' os s' G' → wpAny (model prog w) A (execs rest env) Q E s') → ∀ s' G', Fm wr s₀ G₀ env ρ os s' G' → c = true → wpAny (model prog w) A (execs body env) (dC (model prog w) A env rest Q E) E s')
 (ho : (∀ s' G', Fm wr s₀ G₀ env ρ' os s' G' → wpAny (model prog w) A (execs rest env) Q E s') → ∀ s' G', Fm wr s₀ G₀ env ρ os s' G' → c = false → wpAny (model prog w) A (execs orelse env) (dC (model prog w) A env rest Q E) E s') :
 wpAny (model prog w) A (execs (.If test body orelse pos :: rest) env) Q E s := bB f ht (hb k) (ho k)
set_option maxRecDepth 100000 in
set_option maxHeartbeats 4000000 in
theorem ct_bisr {w : World} {A : Around} {g : Heap} {p : Program} {loose : List Str} {mean : ExcName → Option Value} {mg mb : Str → Option Value} (X : (hd.heap_39 w.params).In g) (T : Top p loose mean mg mb g) (xs : List Int) (x : Int) (hsz : xs.length ≤ 1000000) (han : bQ (fun i => decide (xs.getD i 0 ≤ x)) 0 xs.length) (hA : A.handled = none) (hroom : A.depth < recursionLimit)
 {s : Shared} {G : Mem} {Q E : Value → Shared → Prop} {vs : List Value} (hin : In G s.heap) (hle : Le g.get? G) (hvs : RpL G [.l (xs.map .i), .i x] vs) (hQ : Out s G (.i (bz (fun i => decide (xs.getD i 0 ≤ x)) 0 xs.length : Nat)) Q) : wpAny (model Challenge.rw_wb0032_01.row.prog w) A (call (.ref 23) vs) Q E s := by
 refine oN (Z := fun vs => wpAny _ _ (call _ vs _) _ _ _) hvs fun v₁ t₂ r₁ => ?_
 have up : ∀ b o, g.get? b = some o → s.heap.get? b = some o := fun b o e => hin b o (hle b o e)
 revert X
 k_fill
 intro X
 k_dflt (refine' bo (os := ([] : List (Addr × Kd))) (ρ := (bsR (.i ((0 : Nat) : Int)) (.n) xs x (.n))) X T hroom hin hle ?ho ?hcd ?hbody ?hbind ?hclo ?hkind ?hnd ?gl ?bu ?hos ?hod ?hρ ?hrun ?hco ?hgen ?hk; ((case ho | hcd => k_is); (case hnd => decide +kernel); (case hbody | hclo | gl | bu | hco | hgen | hk => exact rfl)); (case hbind => exact kp_binds (Frag.In.keeps X up) fun ux => rfl); (case hkind => exact rfl); (case hos => exact List.forall_mem_nil _); (case hod => exact List.nodup_nil))
 case hρ =>
  intro h L hn hc hg hb
  repeat' first | exact List.forall_mem_nil _ | with_reducible refine aM ?_ ?_
  · exact al hn rfl rfl rfl ⟨_, rfl⟩
  · exact al hn rfl rfl rfl rfl
  · exact al hn rfl rfl rfl r₁
  · exact al hn rfl rfl rfl ⟨_, rfl⟩
  · exact al hn rfl rfl rfl rfl
  · exact aB hg hb rfl rfl rfl (mg_none_of X T.g (by k_is)) ((T.builtins _ (by decide)).trans (by decide +kernel))
 case hrun =>
  intro s₁ L f₁
  refine cp fun E' => ?_
  refine bB (c := false) f₁ (aX (aj (aa m0) ad bI) (decide_eq_false (by lia))) (fun ux ux ux h => by cases h) fun s₂ G₂ f₂ ux => wpAny_execs_nil ?_
  refine bB (c := true) f₂ (aj (aa m1) cS dN) (fun s₃ G₃ f₃ ux => ?_) (fun ux ux ux h => by cases h)
  refine ao (d := .i (xs.length : Int)) f₃ (aK m5 (ab (aa m2) ae) (cP (by erw [List.length_map]) (by lia))) ar (ρ' := (bsR (.i ((0 : Nat) : Int)) (.i (xs.length : Int)) xs x (.n))) aU fun s₃ G₃ f₃ => wpAny_execs_nil ?_
  refine bB (c := true) f₃ (aj (aa m4) cS dN) (fun s₄ G₄ f₄ ux => ?_) (fun ux ux ux h => by cases h)
  refine c8 (fun n ρi osi => ∃ l m : Nat, n = m - l ∧ l ≤ m ∧ m ≤ xs.length ∧ 0 ≤ l ∧ bz (fun i => decide (xs.getD i 0 ≤ x)) l m = bz (fun i => decide (xs.getD i 0 ≤ x)) 0 xs.length ∧ ([] : List (Addr × Kd)) = osi ∧ ρi = (bsR (.i (l : Int)) (.i (m : Int)) xs x (.n)))
   (fun ρi osi => ∃ (l : Nat) (R : List (Str × D)), l = bz (fun i => decide (xs.getD i 0 ≤ x)) 0 xs.length ∧ ([] : List (Addr × Kd)) = osi ∧ ρi = (("lo":Str), .i (l : Int)) :: R) (xs.length - 0) f₄ ⟨0, xs.length, rfl, Nat.zero_le _, Nat.le_refl _, Nat.le_refl _, rfl, rfl, rfl⟩ ?turn ?hend
  case hend =>
   rintro ρ' os' s' G' E' ⟨l, R, el, rfl, rfl⟩ f
   refine wpAny_execs_nil (wpAny_execs_nil ?_)
   refine bJ f (aa m0) fun v s₆ G₆ f₆ r => ?_
   rw [el] at r
   exact hQ v s₆ G₆ f₆.kp r
  case turn =>
   rintro n ρi osi ⟨l, m, rfl, hlm, hm, hl, hb, rfl, rfl⟩
   refine ⟨decide ((l : Int) < (m : Int)), aj (aa m0) (aa m1) bI, fun hc => ?_, fun hc s G E' f => ?_⟩
   · have hc : ¬ ((l : Int) < m) := of_decide_eq_false hc
     obtain rfl : l = m := by lia
     rw [jZ] at hb
     exact ⟨l, _, hb, rfl, rfl⟩
   · have hc : (l : Int) < m := of_decide_eq_true hc
     have hi : (l + m) / 2 < m := by lia
     have hj : l ≤ (l + m) / 2 := by lia
     have hx : xs[(l + m) / 2]? = some (xs.getD ((l + m) / 2) 0) := by
      erw [List.getD_eq_getElem?_getD, List.getElem?_eq_getElem (by lia), Option.getD_some]
     have han' : bQ (fun i => decide (xs.getD i 0 ≤ x)) l m := fun i j h1 h2 h3 => han i j (by lia) h2 (by lia)
     refine ao (d := .i (((l + m) / 2 : Nat) : Int)) (ρ' := ((("mid":Str), .i (((l + m) / 2 : Nat) : Int)) :: bsR (.i (l : Int)) (.i (m : Int)) xs x (.n))) f (ah (ag (ag (aa m0) (aa m1) bA) ad (dI hA (by decide) (gN (by decide)))) (by erw [ck (by decide)]; push_cast; rfl)) ar aU fun s₅ G₅ f₅ => ?_
     have hitem : ∀ {A : Around} {env : Env} {ea ei : Expr} {pos : Pos} {ρ : List (Str × D)}, Ev (model Challenge.rw_wb0032_01.row.prog w) A env ρ ea (.l (xs.map .i)) → Ev (model Challenge.rw_wb0032_01.row.prog w) A env ρ ei (.i (((l + m) / 2 : Nat) : Int)) →
      (∀ o u, subscripted ei false (.ref o) (.int (((l + m) / 2 : Nat) : Int) u) = operate [.ref o, .int (((l + m) / 2 : Nat) : Int) u] (getItem (.ref o) (.int (((l + m) / 2 : Nat) : Int) u))) → Ev (model Challenge.rw_wb0032_01.row.prog w) A env ρ (.Subscript ea ei pos) (.i (xs.getD ((l + m) / 2) 0)) := by
      intro A env ea ei pos ρ h1 h2 h3
      exact aF h1 h2 (by lia) (by lia) (by erw [Int.toNat_natCast, List.getElem?_map, hx]; rfl) h3
     refine bB (c := decide (x < xs.getD ((l + m) / 2) 0)) f₅ (aj (aa m4) (hitem (aa m3) (aa m0) (by intro _ _; with_unfolding_all rfl)) bI) (fun s₆ G₆ f₆ hc => ?_) (fun s₆ G₆ f₆ hc => ?_)
     · have hc := of_decide_eq_true hc
       refine ao f₆ (aa m0) ar (ρ' := (bsR (.i (l : Int)) (.i (((l + m) / 2 : Nat) : Int)) xs x (.n))) aU fun s₇ G₇ f₇ => wpAny_execs_nil (wpAny_execs_nil ?_)
       exact ⟨_, _, _, G₇, (by lia : (l + m) / 2 - l < m - l), ⟨l, (l + m) / 2, rfl, hj, by lia, hl, by rw [← eR han' hj hi (decide_eq_false (by lia))]; exact hb, rfl, rfl⟩, f₇⟩
     · have hc := of_decide_eq_false hc
       refine ao (d := .i (((l + m) / 2 + 1 : Nat) : Int)) f₆ (ag (aa m0) ad bA) ar (ρ' := (bsR (.i (((l + m) / 2 + 1 : Nat) : Int)) (.i (m : Int)) xs x (.n))) aU fun s₇ G₇ f₇ => wpAny_execs_nil (wpAny_execs_nil ?_)
       exact ⟨_, _, _, G₇, (by lia : m - ((l + m) / 2 + 1) < m - l), ⟨(l + m) / 2 + 1, m, rfl, by lia, hm, by lia, by rw [← g7 han' hj hi (decide_eq_true (by lia))]; exact hb, rfl, rfl⟩, f₇⟩
set_option maxRecDepth 100000 in
set_option maxHeartbeats 4000000 in
theorem ct_bisl {w : World} {A : Around} {g : Heap} {p : Program} {loose : List Str} {mean : ExcName → Option Value} {mg mb : Str → Option Value} (X : (hd.heap_39 w.params).In g) (T : Top p loose mean mg mb g) (xs : List Int) (x : Int) (hsz : xs.length ≤ 1000000) (han : bQ (fun i => decide (xs.getD i 0 < x)) 0 xs.length) (hA : A.handled = none) (hroom : A.depth < recursionLimit)
 {s : Shared} {G : Mem} {Q E : Value → Shared → Prop} {vs : List Value} (hin : In G s.heap) (hle : Le g.get? G) (hvs : RpL G [.l (xs.map .i), .i x] vs) (hQ : Out s G (.i (bz (fun i => decide (xs.getD i 0 < x)) 0 xs.length : Nat)) Q) : wpAny (model Challenge.rw_wb0032_01.row.prog w) A (call (.ref 32) vs) Q E s := by
 refine oN (Z := fun vs => wpAny _ _ (call _ vs _) _ _ _) hvs fun v₁ t₂ r₁ => ?_
 have up : ∀ b o, g.get? b = some o → s.heap.get? b = some o := fun b o e => hin b o (hle b o e)
 revert X
 k_fill
 intro X
 k_dflt (refine' bo (os := ([] : List (Addr × Kd))) (ρ := (bsR (.i ((0 : Nat) : Int)) (.n) xs x (.n))) X T hroom hin hle ?ho ?hcd ?hbody ?hbind ?hclo ?hkind ?hnd ?gl ?bu ?hos ?hod ?hρ ?hrun ?hco ?hgen ?hk; ((case ho | hcd => k_is); (case hnd => decide +kernel); (case hbody | hclo | gl | bu | hco | hgen | hk => exact rfl)); (case hbind => exact kp_binds (Frag.In.keeps X up) fun ux => rfl); (case hkind => exact rfl); (case hos => exact List.forall_mem_nil _); (case hod => exact List.nodup_nil))
 case hρ =>
  intro h L hn hc hg hb
  repeat' first | exact List.forall_mem_nil _ | with_reducible refine aM ?_ ?_
  · exact al hn rfl rfl rfl ⟨_, rfl⟩
  · exact al hn rfl rfl rfl rfl
  · exact al hn rfl rfl rfl r₁
  · exact al hn rfl rfl rfl ⟨_, rfl⟩
  · exact al hn rfl rfl rfl rfl
  · exact aB hg hb rfl rfl rfl (mg_none_of X T.g (by k_is)) ((T.builtins _ (by decide)).trans (by decide +kernel))
 case hrun =>
  intro s₁ L f₁
  refine cp fun E' => ?_
  refine bB (c := false) f₁ (aX (aj (aa m0) ad bI) (decide_eq_false (by lia))) (fun ux ux ux h => by cases h) fun s₂ G₂ f₂ ux => wpAny_execs_nil ?_
  refine bB (c := true) f₂ (aj (aa m1) cS dN) (fun s₃ G₃ f₃ ux => ?_) (fun ux ux ux h => by cases h)
  refine ao (d := .i (xs.length : Int)) f₃ (aK m5 (ab (aa m2) ae) (cP (by erw [List.length_map]) (by lia))) ar (ρ' := (bsR (.i ((0 : Nat) : Int)) (.i (xs.length : Int)) xs x (.n))) aU fun s₃ G₃ f₃ => wpAny_execs_nil ?_
  refine bB (c := true) f₃ (aj (aa m4) cS dN) (fun s₄ G₄ f₄ ux => ?_) (fun ux ux ux h => by cases h)
  refine c8 (fun n ρi osi => ∃ l m : Nat, n = m - l ∧ l ≤ m ∧ m ≤ xs.length ∧ 0 ≤ l ∧ bz (fun i => decide (xs.getD i 0 < x)) l m = bz (fun i => decide (xs.getD i 0 < x)) 0 xs.length ∧ ([] : List (Addr × Kd)) = osi ∧ ρi = (bsR (.i (l : Int)) (.i (m : Int)) xs x (.n)))
   (fun ρi osi => ∃ (l : Nat) (R : List (Str × D)), l = bz (fun i => decide (xs.getD i 0 < x)) 0 xs.length ∧ ([] : List (Addr × Kd)) = osi ∧ ρi = (("lo":Str), .i (l : Int)) :: R) (xs.length - 0) f₄ ⟨0, xs.length, rfl, Nat.zero_le _, Nat.le_refl _, Nat.le_refl _, rfl, rfl, rfl⟩ ?turn ?hend
  case hend =>
   rintro ρ' os' s' G' E' ⟨l, R, el, rfl, rfl⟩ f
   refine wpAny_execs_nil (wpAny_execs_nil ?_)
   refine bJ f (aa m0) fun v s₆ G₆ f₆ r => ?_
   rw [el] at r
   exact hQ v s₆ G₆ f₆.kp r
  case turn =>
   rintro n ρi osi ⟨l, m, rfl, hlm, hm, hl, hb, rfl, rfl⟩
   refine ⟨decide ((l : Int) < (m : Int)), aj (aa m0) (aa m1) bI, fun hc => ?_, fun hc s G E' f => ?_⟩
   · have hc : ¬ ((l : Int) < m) := of_decide_eq_false hc
     obtain rfl : l = m := by lia
     rw [jZ] at hb
     exact ⟨l, _, hb, rfl, rfl⟩
   · have hc : (l : Int) < m := of_decide_eq_true hc
     have hi : (l + m) / 2 < m := by lia
     have hj : l ≤ (l + m) / 2 := by lia
     have hx : xs[(l + m) / 2]? = some (xs.getD ((l + m) / 2) 0) := by
      erw [List.getD_eq_getElem?_getD, List.getElem?_eq_getElem (by lia), Option.getD_some]
     have han' : bQ (fun i => decide (xs.getD i 0 < x)) l m := fun i j h1 h2 h3 => han i j (by lia) h2 (by lia)
     refine ao (d := .i (((l + m) / 2 : Nat) : Int)) (ρ' := ((("mid":Str), .i (((l + m) / 2 : Nat) : Int)) :: bsR (.i (l : Int)) (.i (m : Int)) xs x (.n))) f (ah (ag (ag (aa m0) (aa m1) bA) ad (dI hA (by decide) (gN (by decide)))) (by erw [ck (by decide)]; push_cast; rfl)) ar aU fun s₅ G₅ f₅ => ?_
     have hitem : ∀ {A : Around} {env : Env} {ea ei : Expr} {pos : Pos} {ρ : List (Str × D)}, Ev (model Challenge.rw_wb0032_01.row.prog w) A env ρ ea (.l (xs.map .i)) → Ev (model Challenge.rw_wb0032_01.row.prog w) A env ρ ei (.i (((l + m) / 2 : Nat) : Int)) →
      (∀ o u, subscripted ei false (.ref o) (.int (((l + m) / 2 : Nat) : Int) u) = operate [.ref o, .int (((l + m) / 2 : Nat) : Int) u] (getItem (.ref o) (.int (((l + m) / 2 : Nat) : Int) u))) → Ev (model Challenge.rw_wb0032_01.row.prog w) A env ρ (.Subscript ea ei pos) (.i (xs.getD ((l + m) / 2) 0)) := by
      intro A env ea ei pos ρ h1 h2 h3
      exact aF h1 h2 (by lia) (by lia) (by erw [Int.toNat_natCast, List.getElem?_map, hx]; rfl) h3
     refine bB (c := decide (xs.getD ((l + m) / 2) 0 < x)) f₅ (aj (hitem (aa m3) (aa m0) (by intro _ _; with_unfolding_all rfl)) (aa m4) bI) (fun s₆ G₆ f₆ hc => ?_) (fun s₆ G₆ f₆ hc => ?_)
     · have hc := of_decide_eq_true hc
       refine ao (d := .i (((l + m) / 2 + 1 : Nat) : Int)) f₆ (ag (aa m0) ad bA) ar (ρ' := (bsR (.i (((l + m) / 2 + 1 : Nat) : Int)) (.i (m : Int)) xs x (.n))) aU fun s₇ G₇ f₇ => wpAny_execs_nil (wpAny_execs_nil ?_)
       exact ⟨_, _, _, G₇, (by lia : m - ((l + m) / 2 + 1) < m - l), ⟨(l + m) / 2 + 1, m, rfl, by lia, hm, by lia, by rw [← g7 han' hj hi (decide_eq_true (by lia))]; exact hb, rfl, rfl⟩, f₇⟩
     · have hc := of_decide_eq_false hc
       refine ao f₆ (aa m0) ar (ρ' := (bsR (.i (l : Int)) (.i (((l + m) / 2 : Nat) : Int)) xs x (.n))) aU fun s₇ G₇ f₇ => wpAny_execs_nil (wpAny_execs_nil ?_)
       exact ⟨_, _, _, G₇, (by lia : (l + m) / 2 - l < m - l), ⟨l, (l + m) / 2, rfl, hj, by lia, hl, by rw [← eR han' hj hi (decide_eq_false (by lia))]; exact hb, rfl, rfl⟩, f₇⟩
set_option maxRecDepth 100000 in
set_option maxHeartbeats 4000000 in
theorem ln {w : World} {A : Around} {g : Heap} {p : Program} {loose : List Str} {mean : ExcName → Option Value} {mg mb : Str → Option Value} (X : (hd.heap_39 w.params).In g) (T : Top p loose mean mg mb g) (xs : List Int) (x : Int) {lo hi : Nat} {os : List (Addr × Kd)} {fa : Addr} {κ : Int → Int} {dom : Int → Prop} (hdom : ∀ c ∈ xs, dom c) (hsz : xs.length ≤ 1000000) (han : bQ (fun i => decide (κ (xs.getD i 0) ≤ x)) lo hi) (hA : A.handled = none) (hroom : A.depth < recursionLimit)
 {s : Shared} {G : Mem} {Q E : Value → Shared → Prop} {vs : List Value} {v₁ loV hiV : Value} {t₂ : Tok} {hD : D} {c : Bool} (hin : In G s.heap) (hle : Le g.get? G) (hI : BisIn 189 xs.length v₁ x t₂ vs lo hi hD c loV hiV) (r₁ : Rp G (.l (xs.map .i)) v₁) (hh : Held G s.heap os) (hK : jT (model Challenge.rw_wb0032_01.row.prog w) A G os fa κ dom s.heap) (hQ : ∀ v s' G', Eff os os s G s' G' → Rp G' (.i (bz (fun i => decide (κ (xs.getD i 0) ≤ x)) lo hi : Nat)) v → Q v s') : wpAny (model Challenge.rw_wb0032_01.row.prog w) A (call (.ref 23) vs [(Str.ofString "key", .ref fa)]) Q E s := by
 have ⟨hlh, hhl⟩ := hI.le
 have up : ∀ b o, g.get? b = some o → s.heap.get? b = some o := fun b o e => hin b o (hle b o e)
 revert X
 k_fill
 intro X
 k_dflt (refine' bo (os := os) (binds := [(Str.ofString "a", v₁), (Str.ofString "x", .int x t₂), (Str.ofString "lo", loV), (Str.ofString "hi", hiV), (Str.ofString "key", .ref fa)]) (ρ := (bsR (.i (lo : Int)) hD xs x (.v (.ref fa)))) X T hroom hin hle ?ho ?hcd ?hbody ?hbind ?hclo ?hkind ?hnd ?gl ?bu ?hos ?hod ?hρ ?hrun ?hco ?hgen ?hk; ((case ho | hcd => k_is); (case hnd => decide +kernel); (case hbody | hclo | gl | bu | hco | hgen | hk => exact rfl)); (case hbind => refine hI.el (P := fun vs loV hiV => BindsTo s _ ⟨vs, [(Str.ofString "key", .ref fa)]⟩ [(Str.ofString "a", v₁), (Str.ofString "x", .int x t₂), (Str.ofString "lo", loV), (Str.ofString "hi", hiV), (Str.ofString "key", .ref fa)]) ?_ fun ux ux ux ux => ?_ <;> exact kp_binds (Frag.In.keeps X up) fun ux => rfl); (case hkind => exact rfl); (case hos => exact hh.1); (case hod => exact hh.2))
 case hρ =>
  intro h L hn hc hg hb
  repeat' first | exact List.forall_mem_nil _ | with_reducible refine aM ?_ ?_
  · exact al hn rfl rfl rfl (hI.rl _).1
  · exact al hn rfl rfl rfl (hI.rl _).2
  · exact al hn rfl rfl rfl r₁
  · exact al hn rfl rfl rfl ⟨_, rfl⟩
  · exact al hn rfl rfl rfl rfl
  · exact aB hg hb rfl rfl rfl (mg_none_of X T.g (by k_is)) ((T.builtins _ (by decide)).trans (by decide +kernel))
 case hrun =>
  intro s₁ L f₁
  refine cp fun E' => ?_
  refine bB (c := false) f₁ (aX (aj (aa m0) ad bI) (decide_eq_false (by lia))) (fun ux ux ux h => by cases h) fun s₂ G₂ f₂ ux => wpAny_execs_nil ?_
  refine pJ (c := c) (ρ' := bsR (.i (lo : Int)) (.i (hi : Int)) xs x (.v (.ref fa))) f₂ (aj (db := .n) (aa m1) cS hI.cm) (fun s₃ G₃ f₃ => ?_) (fun k s₃ G₃ f₃ hc => ?_) fun k s₃ G₃ f₃ hc => ?_
  rotate_left
  · have e := hI.ct hc
    rw [e] at k
    exact ao (d := .i (xs.length : Int)) f₃ (aK m5 (ab (aa m2) ae) (cP (by erw [List.length_map]) (by lia))) ar (ρ' := bsR (.i (lo : Int)) (.i (xs.length : Int)) xs x (.v (.ref fa))) aU fun s₃ G₃ f₃ => wpAny_execs_nil (k _ _ f₃)
  · exact wpAny_execs_nil (k _ _ (hI.cf hc ▸ f₃))
  refine bB (c := false) f₃ (aj (aa m4) cS lj) (fun ux ux ux h => by cases h) fun s₄ G₄ f₄ ux => ?_
  refine c8 (fun n ρi osi => ∃ l m : Nat, n = m - l ∧ l ≤ m ∧ m ≤ hi ∧ lo ≤ l ∧ bz (fun i => decide (κ (xs.getD i 0) ≤ x)) l m = bz (fun i => decide (κ (xs.getD i 0) ≤ x)) lo hi ∧ os = osi ∧ ρi = (bsR (.i (l : Int)) (.i (m : Int)) xs x (.v (.ref fa))))
   (fun ρi osi => ∃ (l : Nat) (R : List (Str × D)), l = bz (fun i => decide (κ (xs.getD i 0) ≤ x)) lo hi ∧ os = osi ∧ ρi = (("lo":Str), .i (l : Int)) :: R) (hi - lo) f₄ ⟨lo, hi, rfl, hlh, Nat.le_refl _, Nat.le_refl _, rfl, rfl, rfl⟩ ?turn ?hend
  case hend =>
   rintro ρ' os' s' G' E' ⟨l, R, el, rfl, rfl⟩ f
   refine wpAny_execs_nil (wpAny_execs_nil ?_)
   refine bJ f (aa m0) fun v s₆ G₆ f₆ r => ?_
   rw [el] at r
   exact hQ v s₆ G₆ (f₆.eff (List.Sublist.refl _)) r
  case turn =>
   rintro n ρi osi ⟨l, m, rfl, hlm, hm, hl, hb, rfl, rfl⟩
   refine ⟨decide ((l : Int) < (m : Int)), aj (aa m0) (aa m1) bI, fun hc => ?_, fun hc s G E' f => ?_⟩
   · have hc : ¬ ((l : Int) < m) := of_decide_eq_false hc
     obtain rfl : l = m := by lia
     rw [jZ] at hb
     exact ⟨l, _, hb, rfl, rfl⟩
   · have hc : (l : Int) < m := of_decide_eq_true hc
     have hi : (l + m) / 2 < m := by lia
     have hj : l ≤ (l + m) / 2 := by lia
     have hx : xs[(l + m) / 2]? = some (xs.getD ((l + m) / 2) 0) := by
      erw [List.getD_eq_getElem?_getD, List.getElem?_eq_getElem (by lia), Option.getD_some]
     have han' : bQ (fun i => decide (κ (xs.getD i 0) ≤ x)) l m := fun i j h1 h2 h3 => han i j (by lia) h2 (by lia)
     refine ao (d := .i (((l + m) / 2 : Nat) : Int)) (ρ' := ((("mid":Str), .i (((l + m) / 2 : Nat) : Int)) :: bsR (.i (l : Int)) (.i (m : Int)) xs x (.v (.ref fa)))) f (ah (ag (ag (aa m0) (aa m1) bA) ad (dI hA (by decide) (gN (by decide)))) (by erw [ck (by decide)]; push_cast; rfl)) ar aU fun s₅ G₅ f₅ => ?_
     have hitem : ∀ {A : Around} {env : Env} {ea ei : Expr} {pos : Pos} {ρ : List (Str × D)}, Ev (model Challenge.rw_wb0032_01.row.prog w) A env ρ ea (.l (xs.map .i)) → Ev (model Challenge.rw_wb0032_01.row.prog w) A env ρ ei (.i (((l + m) / 2 : Nat) : Int)) →
      (∀ o u, subscripted ei false (.ref o) (.int (((l + m) / 2 : Nat) : Int) u) = operate [.ref o, .int (((l + m) / 2 : Nat) : Int) u] (getItem (.ref o) (.int (((l + m) / 2 : Nat) : Int) u))) → Ev (model Challenge.rw_wb0032_01.row.prog w) A env ρ (.Subscript ea ei pos) (.i (xs.getD ((l + m) / 2) 0)) := by
      intro A env ea ei pos ρ h1 h2 h3
      exact aF h1 h2 (by lia) (by lia) (by erw [Int.toNat_natCast, List.getElem?_map, hx]; rfl) h3
     replace f₅ := f₅.perm (os' := os ++ []) (by erw [List.append_nil])
     refine jS (c := decide (x < κ (xs.getD ((l + m) / 2) 0))) (os₁ := os ++ []) f₅ (fw (aO (aa m4)) (cY (rest := []) (kws := []) (kn := []) (kds := []) (os := os) (os' := os) (a := fa) (d := .i (κ (xs.getD ((l + m) / 2) 0))) (ds := [.i (xs.getD ((l + m) / 2) 0)]) (dF := .v (.ref fa)) m5 (fun ux ux h => h) ?hfn (ab (hitem (aa m3) (aa m0) (by intro _ _; with_unfolding_all rfl)) ae) bl ?hcall (fun ux h => h)) bI) (fun s₆ G₆ f₆ ux hc => ?_) (fun s₆ G₆ f₆ ux hc => ?_)
     case hfn =>
      intro s₆ G₆ f₆
      obtain ⟨o, fd, e1, e2⟩ := hK.1
      exact ⟨o, fd, f₆.K.hp _ _ hK.2.1 e1, e2⟩
     case hcall =>
      intro s₆ G₆ vs ks Q₂ E₂ f₆ rv rk hq
      have rk : ks = [] := rk
      subst rk
      rw [List.append_nil] at f₆
      exact hK.2.2 _ s₆ G₆ Q₂ E₂ vs _ hA rfl rfl (hdom _ (List.mem_of_getElem? hx)) (fun b o hb e => f₆.K.hp _ _ hb e) f₆.E.sub f₆.K.le rv f₆.held hq
     all_goals rw [List.append_nil] at f₆
     · have hc := of_decide_eq_true hc
       refine ao f₆ (aa m0) ar (ρ' := (bsR (.i (l : Int)) (.i (((l + m) / 2 : Nat) : Int)) xs x (.v (.ref fa)))) aU fun s₇ G₇ f₇ => wpAny_execs_nil (wpAny_execs_nil ?_)
       exact ⟨_, _, _, G₇, (by lia : (l + m) / 2 - l < m - l), ⟨l, (l + m) / 2, rfl, hj, by lia, hl, by rw [← eR han' hj hi (decide_eq_false (by lia))]; exact hb, rfl, rfl⟩, f₇⟩
     · have hc := of_decide_eq_false hc
       refine ao (d := .i (((l + m) / 2 + 1 : Nat) : Int)) f₆ (ag (aa m0) ad bA) ar (ρ' := (bsR (.i (((l + m) / 2 + 1 : Nat) : Int)) (.i (m : Int)) xs x (.v (.ref fa)))) aU fun s₇ G₇ f₇ => wpAny_execs_nil (wpAny_execs_nil ?_)
       exact ⟨_, _, _, G₇, (by lia : m - ((l + m) / 2 + 1) < m - l), ⟨(l + m) / 2 + 1, m, rfl, by lia, hm, by lia, by rw [← g7 han' hj hi (decide_eq_true (by lia))]; exact hb, rfl, rfl⟩, f₇⟩
theorem pL {w : World} {A : Around} {g : Heap} {p : Program} {loose : List Str} {mean : ExcName → Option Value} {mg mb : Str → Option Value} (X : (hd.heap_39 w.params).In g) (T : Top p loose mean mg mb g) (xs : List Int) (x : Int) {os : List (Addr × Kd)} {fa : Addr} {κ : Int → Int} {dom : Int → Prop} (hdom : ∀ c ∈ xs, dom c) (hsz : xs.length ≤ 1000000) (han : bQ (fun i => decide (κ (xs.getD i 0) ≤ x)) 0 xs.length) (hA : A.handled = none) (hroom : A.depth < recursionLimit)
 {s : Shared} {G : Mem} {Q E : Value → Shared → Prop} {vs : List Value} {ks : List Value} (hin : In G s.heap) (hle : Le g.get? G) (hvs : RpL G [.l (xs.map .i), .i x] vs) (hks : RpL G [.v (.ref fa)] ks) (hh : Held G s.heap os) (hK : jT (model Challenge.rw_wb0032_01.row.prog w) A G os fa κ dom s.heap) (hQ : ∀ v s' G', Eff os os s G s' G' → Rp G' (.i (bz (fun i => decide (κ (xs.getD i 0) ≤ x)) 0 xs.length : Nat)) v → Q v s') : wpAny (model Challenge.rw_wb0032_01.row.prog w) A (call (.ref 23) vs ([("key":Str)].zip ks)) Q E s := by
 refine oN (Z := fun vs => wpAny _ _ (call _ vs _) _ _ _) hvs fun v₁ t₂ r₁ => ?_
 obtain ⟨v₅, r₅, rfl, rfl, rfl⟩ := hks
 exact ln X T xs x hdom hsz han hA hroom hin hle .p r₁ hh hK hQ
theorem n5 {w : World} {A : Around} {g : Heap} {p : Program} {loose : List Str} {mean : ExcName → Option Value} {mg mb : Str → Option Value} (X : (hd.heap_39 w.params).In g) (T : Top p loose mean mg mb g) (xs : List Int) (x : Int) (lo hi : Nat) (hlh : lo ≤ hi) (hhl : hi ≤ xs.length) {os : List (Addr × Kd)} {fa : Addr} {κ : Int → Int} {dom : Int → Prop} (hdom : ∀ c ∈ xs, dom c) (hsz : xs.length ≤ 1000000) (han : bQ (fun i => decide (κ (xs.getD i 0) ≤ x)) lo hi) (hA : A.handled = none) (hroom : A.depth < recursionLimit)
 {s : Shared} {G : Mem} {Q E : Value → Shared → Prop} {vs : List Value} {ks : List Value} (hin : In G s.heap) (hle : Le g.get? G) (hvs : RpL G [.l (xs.map .i), .i x, .i (lo : Int), .i (hi : Int)] vs) (hks : RpL G [.v (.ref fa)] ks) (hh : Held G s.heap os) (hK : jT (model Challenge.rw_wb0032_01.row.prog w) A G os fa κ dom s.heap) (hQ : ∀ v s' G', Eff os os s G s' G' → Rp G' (.i (bz (fun i => decide (κ (xs.getD i 0) ≤ x)) lo hi : Nat)) v → Q v s') : wpAny (model Challenge.rw_wb0032_01.row.prog w) A (call (.ref 23) vs ([("key":Str)].zip ks)) Q E s := by
 refine qA (Z := fun vs => wpAny _ _ (call _ vs _) _ _ _) hvs fun v₁ t₂ t₃ t₄ r₁ => ?_
 obtain ⟨v₅, r₅, rfl, rfl, rfl⟩ := hks
 exact ln X T xs x hdom hsz han hA hroom hin hle (.g hlh hhl) r₁ hh hK hQ
set_option maxRecDepth 100000 in
set_option maxHeartbeats 4000000 in
theorem k9 {w : World} {A : Around} {g : Heap} {p : Program} {loose : List Str} {mean : ExcName → Option Value} {mg mb : Str → Option Value} (X : (hd.heap_39 w.params).In g) (T : Top p loose mean mg mb g) (xs : List Int) (x : Int) {lo hi : Nat} {os : List (Addr × Kd)} {fa : Addr} {κ : Int → Int} {dom : Int → Prop} (hdom : ∀ c ∈ xs, dom c) (hsz : xs.length ≤ 1000000) (han : bQ (fun i => decide (κ (xs.getD i 0) < x)) lo hi) (hA : A.handled = none) (hroom : A.depth < recursionLimit)
 {s : Shared} {G : Mem} {Q E : Value → Shared → Prop} {vs : List Value} {v₁ loV hiV : Value} {t₂ : Tok} {hD : D} {c : Bool} (hin : In G s.heap) (hle : Le g.get? G) (hI : BisIn 203 xs.length v₁ x t₂ vs lo hi hD c loV hiV) (r₁ : Rp G (.l (xs.map .i)) v₁) (hh : Held G s.heap os) (hK : jT (model Challenge.rw_wb0032_01.row.prog w) A G os fa κ dom s.heap) (hQ : ∀ v s' G', Eff os os s G s' G' → Rp G' (.i (bz (fun i => decide (κ (xs.getD i 0) < x)) lo hi : Nat)) v → Q v s') : wpAny (model Challenge.rw_wb0032_01.row.prog w) A (call (.ref 32) vs [(Str.ofString "key", .ref fa)]) Q E s := by
 have ⟨hlh, hhl⟩ := hI.le
 have up : ∀ b o, g.get? b = some o → s.heap.get? b = some o := fun b o e => hin b o (hle b o e)
 revert X
 k_fill
 intro X
 k_dflt (refine' bo (os := os) (binds := [(Str.ofString "a", v₁), (Str.ofString "x", .int x t₂), (Str.ofString "lo", loV), (Str.ofString "hi", hiV), (Str.ofString "key", .ref fa)]) (ρ := (bsR (.i (lo : Int)) hD xs x (.v (.ref fa)))) X T hroom hin hle ?ho ?hcd ?hbody ?hbind ?hclo ?hkind ?hnd ?gl ?bu ?hos ?hod ?hρ ?hrun ?hco ?hgen ?hk; ((case ho | hcd => k_is); (case hnd => decide +kernel); (case hbody | hclo | gl | bu | hco | hgen | hk => exact rfl)); (case hbind => refine hI.el (P := fun vs loV hiV => BindsTo s _ ⟨vs, [(Str.ofString "key", .ref fa)]⟩ [(Str.ofString "a", v₁), (Str.ofString "x", .int x t₂), (Str.ofString "lo", loV), (Str.ofString "hi", hiV), (Str.ofString "key", .ref fa)]) ?_ fun ux ux ux ux => ?_ <;> exact kp_binds (Frag.In.keeps X up) fun ux => rfl); (case hkind => exact rfl); (case hos => exact hh.1); (case hod => exact hh.2))
 case hρ =>
  intro h L hn hc hg hb
  repeat' first | exact List.forall_mem_nil _ | with_reducible refine aM ?_ ?_
  · exact al hn rfl rfl rfl (hI.rl _).1
  · exact al hn rfl rfl rfl (hI.rl _).2
  · exact al hn rfl rfl rfl r₁
  · exact al hn rfl rfl rfl ⟨_, rfl⟩
  · exact al hn rfl rfl rfl rfl
  · exact aB hg hb rfl rfl rfl (mg_none_of X T.g (by k_is)) ((T.builtins _ (by decide)).trans (by decide +kernel))
 case hrun =>
  intro s₁ L f₁
  refine cp fun E' => ?_
  refine bB (c := false) f₁ (aX (aj (aa m0) ad bI) (decide_eq_false (by lia))) (fun ux ux ux h => by cases h) fun s₂ G₂ f₂ ux => wpAny_execs_nil ?_
  refine pJ (c := c) (ρ' := bsR (.i (lo : Int)) (.i (hi : Int)) xs x (.v (.ref fa))) f₂ (aj (db := .n) (aa m1) cS hI.cm) (fun s₃ G₃ f₃ => ?_) (fun k s₃ G₃ f₃ hc => ?_) fun k s₃ G₃ f₃ hc => ?_
  rotate_left
  · have e := hI.ct hc
    rw [e] at k
    exact ao (d := .i (xs.length : Int)) f₃ (aK m5 (ab (aa m2) ae) (cP (by erw [List.length_map]) (by lia))) ar (ρ' := bsR (.i (lo : Int)) (.i (xs.length : Int)) xs x (.v (.ref fa))) aU fun s₃ G₃ f₃ => wpAny_execs_nil (k _ _ f₃)
  · exact wpAny_execs_nil (k _ _ (hI.cf hc ▸ f₃))
  refine bB (c := false) f₃ (aj (aa m4) cS lj) (fun ux ux ux h => by cases h) fun s₄ G₄ f₄ ux => ?_
  refine c8 (fun n ρi osi => ∃ l m : Nat, n = m - l ∧ l ≤ m ∧ m ≤ hi ∧ lo ≤ l ∧ bz (fun i => decide (κ (xs.getD i 0) < x)) l m = bz (fun i => decide (κ (xs.getD i 0) < x)) lo hi ∧ os = osi ∧ ρi = (bsR (.i (l : Int)) (.i (m : Int)) xs x (.v (.ref fa))))
   (fun ρi osi => ∃ (l : Nat) (R : List (Str × D)), l = bz (fun i => decide (κ (xs.getD i 0) < x)) lo hi ∧ os = osi ∧ ρi = (("lo":Str), .i (l : Int)) :: R) (hi - lo) f₄ ⟨lo, hi, rfl, hlh, Nat.le_refl _, Nat.le_refl _, rfl, rfl, rfl⟩ ?turn ?hend
  case hend =>
   rintro ρ' os' s' G' E' ⟨l, R, el, rfl, rfl⟩ f
   refine wpAny_execs_nil (wpAny_execs_nil ?_)
   refine bJ f (aa m0) fun v s₆ G₆ f₆ r => ?_
   rw [el] at r
   exact hQ v s₆ G₆ (f₆.eff (List.Sublist.refl _)) r
  case turn =>
   rintro n ρi osi ⟨l, m, rfl, hlm, hm, hl, hb, rfl, rfl⟩
   refine ⟨decide ((l : Int) < (m : Int)), aj (aa m0) (aa m1) bI, fun hc => ?_, fun hc s G E' f => ?_⟩
   · have hc : ¬ ((l : Int) < m) := of_decide_eq_false hc
     obtain rfl : l = m := by lia
     rw [jZ] at hb
     exact ⟨l, _, hb, rfl, rfl⟩
   · have hc : (l : Int) < m := of_decide_eq_true hc
     have hi : (l + m) / 2 < m := by lia
     have hj : l ≤ (l + m) / 2 := by lia
     have hx : xs[(l + m) / 2]? = some (xs.getD ((l + m) / 2) 0) := by
      erw [List.getD_eq_getElem?_getD, List.getElem?_eq_getElem (by lia), Option.getD_some]
     have han' : bQ (fun i => decide (κ (xs.getD i 0) < x)) l m := fun i j h1 h2 h3 => han i j (by lia) h2 (by lia)
     refine ao (d := .i (((l + m) / 2 : Nat) : Int)) (ρ' := ((("mid":Str), .i (((l + m) / 2 : Nat) : Int)) :: bsR (.i (l : Int)) (.i (m : Int)) xs x (.v (.ref fa)))) f (ah (ag (ag (aa m0) (aa m1) bA) ad (dI hA (by decide) (gN (by decide)))) (by erw [ck (by decide)]; push_cast; rfl)) ar aU fun s₅ G₅ f₅ => ?_
     have hitem : ∀ {A : Around} {env : Env} {ea ei : Expr} {pos : Pos} {ρ : List (Str × D)}, Ev (model Challenge.rw_wb0032_01.row.prog w) A env ρ ea (.l (xs.map .i)) → Ev (model Challenge.rw_wb0032_01.row.prog w) A env ρ ei (.i (((l + m) / 2 : Nat) : Int)) →
      (∀ o u, subscripted ei false (.ref o) (.int (((l + m) / 2 : Nat) : Int) u) = operate [.ref o, .int (((l + m) / 2 : Nat) : Int) u] (getItem (.ref o) (.int (((l + m) / 2 : Nat) : Int) u))) → Ev (model Challenge.rw_wb0032_01.row.prog w) A env ρ (.Subscript ea ei pos) (.i (xs.getD ((l + m) / 2) 0)) := by
      intro A env ea ei pos ρ h1 h2 h3
      exact aF h1 h2 (by lia) (by lia) (by erw [Int.toNat_natCast, List.getElem?_map, hx]; rfl) h3
     replace f₅ := f₅.perm (os' := os ++ []) (by erw [List.append_nil])
     refine jS (c := decide (κ (xs.getD ((l + m) / 2) 0) < x)) (os₁ := os ++ []) f₅ (fw (cY (rest := []) (kws := []) (kn := []) (kds := []) (os := os) (os' := os) (a := fa) (d := .i (κ (xs.getD ((l + m) / 2) 0))) (ds := [.i (xs.getD ((l + m) / 2) 0)]) (dF := .v (.ref fa)) m5 (fun ux ux h => h) ?hfn (ab (hitem (aa m3) (aa m0) (by intro _ _; with_unfolding_all rfl)) ae) bl ?hcall (fun ux h => h)) (aO (aa m4)) bI) (fun s₆ G₆ f₆ ux hc => ?_) (fun s₆ G₆ f₆ ux hc => ?_)
     case hfn =>
      intro s₆ G₆ f₆
      obtain ⟨o, fd, e1, e2⟩ := hK.1
      exact ⟨o, fd, f₆.K.hp _ _ hK.2.1 e1, e2⟩
     case hcall =>
      intro s₆ G₆ vs ks Q₂ E₂ f₆ rv rk hq
      have rk : ks = [] := rk
      subst rk
      rw [List.append_nil] at f₆
      exact hK.2.2 _ s₆ G₆ Q₂ E₂ vs _ hA rfl rfl (hdom _ (List.mem_of_getElem? hx)) (fun b o hb e => f₆.K.hp _ _ hb e) f₆.E.sub f₆.K.le rv f₆.held hq
     all_goals rw [List.append_nil] at f₆
     · have hc := of_decide_eq_true hc
       refine ao (d := .i (((l + m) / 2 + 1 : Nat) : Int)) f₆ (ag (aa m0) ad bA) ar (ρ' := (bsR (.i (((l + m) / 2 + 1 : Nat) : Int)) (.i (m : Int)) xs x (.v (.ref fa)))) aU fun s₇ G₇ f₇ => wpAny_execs_nil (wpAny_execs_nil ?_)
       exact ⟨_, _, _, G₇, (by lia : m - ((l + m) / 2 + 1) < m - l), ⟨(l + m) / 2 + 1, m, rfl, by lia, hm, by lia, by rw [← g7 han' hj hi (decide_eq_true (by lia))]; exact hb, rfl, rfl⟩, f₇⟩
     · have hc := of_decide_eq_false hc
       refine ao f₆ (aa m0) ar (ρ' := (bsR (.i (l : Int)) (.i (((l + m) / 2 : Nat) : Int)) xs x (.v (.ref fa)))) aU fun s₇ G₇ f₇ => wpAny_execs_nil (wpAny_execs_nil ?_)
       exact ⟨_, _, _, G₇, (by lia : (l + m) / 2 - l < m - l), ⟨l, (l + m) / 2, rfl, hj, by lia, hl, by rw [← eR han' hj hi (decide_eq_false (by lia))]; exact hb, rfl, rfl⟩, f₇⟩
theorem qw {w : World} {A : Around} {g : Heap} {p : Program} {loose : List Str} {mean : ExcName → Option Value} {mg mb : Str → Option Value} (X : (hd.heap_39 w.params).In g) (T : Top p loose mean mg mb g) (xs : List Int) (x : Int) {os : List (Addr × Kd)} {fa : Addr} {κ : Int → Int} {dom : Int → Prop} (hdom : ∀ c ∈ xs, dom c) (hsz : xs.length ≤ 1000000) (han : bQ (fun i => decide (κ (xs.getD i 0) < x)) 0 xs.length) (hA : A.handled = none) (hroom : A.depth < recursionLimit)
 {s : Shared} {G : Mem} {Q E : Value → Shared → Prop} {vs : List Value} {ks : List Value} (hin : In G s.heap) (hle : Le g.get? G) (hvs : RpL G [.l (xs.map .i), .i x] vs) (hks : RpL G [.v (.ref fa)] ks) (hh : Held G s.heap os) (hK : jT (model Challenge.rw_wb0032_01.row.prog w) A G os fa κ dom s.heap) (hQ : ∀ v s' G', Eff os os s G s' G' → Rp G' (.i (bz (fun i => decide (κ (xs.getD i 0) < x)) 0 xs.length : Nat)) v → Q v s') : wpAny (model Challenge.rw_wb0032_01.row.prog w) A (call (.ref 32) vs ([("key":Str)].zip ks)) Q E s := by
 refine oN (Z := fun vs => wpAny _ _ (call _ vs _) _ _ _) hvs fun v₁ t₂ r₁ => ?_
 obtain ⟨v₅, r₅, rfl, rfl, rfl⟩ := hks
 exact k9 X T xs x hdom hsz han hA hroom hin hle .p r₁ hh hK hQ
theorem oR {w : World} {A : Around} {g : Heap} {p : Program} {loose : List Str} {mean : ExcName → Option Value} {mg mb : Str → Option Value} (X : (hd.heap_39 w.params).In g) (T : Top p loose mean mg mb g) (xs : List Int) (x : Int) (lo hi : Nat) (hlh : lo ≤ hi) (hhl : hi ≤ xs.length) {os : List (Addr × Kd)} {fa : Addr} {κ : Int → Int} {dom : Int → Prop} (hdom : ∀ c ∈ xs, dom c) (hsz : xs.length ≤ 1000000) (han : bQ (fun i => decide (κ (xs.getD i 0) < x)) lo hi) (hA : A.handled = none) (hroom : A.depth < recursionLimit)
 {s : Shared} {G : Mem} {Q E : Value → Shared → Prop} {vs : List Value} {ks : List Value} (hin : In G s.heap) (hle : Le g.get? G) (hvs : RpL G [.l (xs.map .i), .i x, .i (lo : Int), .i (hi : Int)] vs) (hks : RpL G [.v (.ref fa)] ks) (hh : Held G s.heap os) (hK : jT (model Challenge.rw_wb0032_01.row.prog w) A G os fa κ dom s.heap) (hQ : ∀ v s' G', Eff os os s G s' G' → Rp G' (.i (bz (fun i => decide (κ (xs.getD i 0) < x)) lo hi : Nat)) v → Q v s') : wpAny (model Challenge.rw_wb0032_01.row.prog w) A (call (.ref 32) vs ([("key":Str)].zip ks)) Q E s := by
 refine qA (Z := fun vs => wpAny _ _ (call _ vs _) _ _ _) hvs fun v₁ t₂ t₃ t₄ r₁ => ?_
 obtain ⟨v₅, r₅, rfl, rfl, rfl⟩ := hks
 exact k9 X T xs x hdom hsz han hA hroom hin hle (.g hlh hhl) r₁ hh hK hQ
set_option tactic.hygienic false
theorem ga_slot : Slot "function" "__getattribute__" "object.__getattribute__" :=
 .of (owner := "object") (n := "__getattribute__") (by erw [typeLookup_type, builtinLookup_eq_fast]; kernel_rfl) (by decide +kernel) (by decide +kernel) (by decide +kernel)
  (by first | exact .inl (by decide +kernel) | exact .inr (by decide +kernel)) (by erw [isSubtype_type]; kernel_rfl)
theorem g4 : Slot "function" "__setattr__" "object.__setattr__" :=
 .of (owner := "object") (n := "__setattr__") (by erw [typeLookup_type, builtinLookup_eq_fast]; kernel_rfl) (by decide +kernel) (by decide +kernel) (by decide +kernel)
  (by first | exact .inl (by decide +kernel) | exact .inr (by decide +kernel)) (by erw [isSubtype_type]; kernel_rfl)
theorem g9 : typeLookup (.type "function") "__getattr__" = pure none := by erw [typeLookup_type, builtinLookup_eq_fast]; kernel_rfl
noncomputable def gx (name : Str) : Bool := (match fastLookup "function" name with | some none => true | _ => false)
theorem cR {name : Str} (h : gx name = true) : typeLookup (.type "function") name = pure none := am_miss_of_fast h
theorem iG : entryFor table "object.__getattribute__" = some Builtin.«object.__getattribute__» := entryFor_of_tree (by kernel_rfl)
theorem jw (a b : Value) : argsOk "object.__getattribute__" ⟨[a, b], []⟩ := by unfold argsOk; kernel_rfl
section
variable {prog : Program} {w : World} {A : Around}
theorem fS (a d : Addr) (fd : FuncData) (sl : Array (Option Value)) (m : Str → Option Value) (name : Str) (v : Value) (u : Tok) (hmiss : typeLookup (.type "function") name = pure none) (hm : m name = some v) :
 Meets (Builtin.«object.__getattribute__» ⟨[.ref a, .str name u], []⟩) (fun A R s => s.heap.get? a = some ⟨.type "function", some d, .func fd, sl⟩ ∧ s.heap.Ns d m ∧ R (.ok (.ret v)) s) :=
 Meets.of_wp fun prog w A R s hs => by
  obtain ⟨hp, g, dr, tk, os⟩ := s
  obtain ⟨hx, hn, hs⟩ := hs
  have hT : (⟨hp, g, dr, tk, os⟩ : Shared).TypeIs (.ref a) "function" := ⟨_, hx, rfl⟩
  unfold Builtin.«object.__getattribute__»
  repeat (any_goals (first | assumption | ((with_reducible show wpAny _ _ (Builtin.ObjectAttr.inDict _ (some _)) _ _ _); refine wpAny_nsGet hn ?_; erw [hm]) | wp_step))
  exact ⟨_, rfl, hs⟩
set_option maxHeartbeats 2000000 in
theorem mm {s : Shared} {a d : Addr} {fd : FuncData} {sl : Array (Option Value)} {m : Str → Option Value} {name : Str} {v : Value} {b : Bool} {Q E : Value → Shared → Prop} (hx : s.heap.get? a = some ⟨.type "function", some d, .func fd, sl⟩) (hn : s.heap.Ns d m)
 (hmiss : typeLookup (.type "function") name = pure none) (hm : m name = some v) (hv : ∀ id, v ≠ .builtin id) (h : ∀ tk, Q v { s with toks := tk }) : wpAny (model prog w) A (getAttr (.ref a) name b) Q E s := by
 obtain ⟨hp, g, dr, tk, os⟩ := s
 have hT : ∀ tk', (⟨hp, g, dr, tk', os⟩ : Shared).TypeIs (.ref a) "function" := fun ux => ⟨_, hx, rfl⟩
 have f3 := ga_slot.lookup
 have f4 := ga_slot.bind (.ref a)
 have f5 := g9
 have hh : handedOut v = pure v := by
  cases v with
  | builtin id => exact absurd rfl (hv id)
  | _ => rfl
 cases b <;> unfold getAttr getAttrBy <;>
 repeat (any_goals (first | assumption | exact hT _ | ((with_reducible show wpAny _ _ (call (Value.builtin "object.__getattribute__") _ _) _ _ _); refine call_meets ga_slot (hT _) iG (jw _ _) (fS a d fd sl m name v _ hmiss hm) ⟨hx, hn, ?_⟩) | wp_step))
 all_goals exact h _
theorem fn_mro : mroOf (.type "function") = pure [.type "function", .type "object"] := by kernel_rfl
theorem oz (self : Value) : refuseLoop self "__setattr__" [.type "function", .type "object"] = pure () := by kernel_rfl
theorem qW (a : Addr) : ownStreamTells (.ref a) (.type "function") = pure () := by kernel_rfl
theorem fn_fin : finalisedInACycleAlone "function" = false := by kernel_rfl
theorem lZ : typeHasDict (.type "function") = true := by kernel_rfl
theorem pj {x : Addr} {o : Obj} {name : Str} {u : Tok} {v : Value} {s : Shared} {Q : Fin → Shared → Prop} {E : Value → Shared → Prop} (hx : s.heap.get? x = some o) (hc : o.cls = .type "function") (hmiss : typeLookup (.type "function") name = pure none)
 (h : wpAny (model prog w) A (Builtin.ObjectAttr.ownDictForStores (.ref x) >>= fun r => match r with | some d => Builtin.ObjectAttr.storeInDict d (.str name u) name v | none => Builtin.ObjectAttr.noDictFor (.ref x) (.type "function") name false) Q E s) :
 wpAny (model prog w) A (Builtin.«object.__setattr__» ⟨[.ref x, .str name u, v], []⟩) Q E s := by
 have hT : s.TypeIs (.ref x) "function" := ⟨_, hx, hc⟩
 erw [osa_eq, refuse_eq]
 refine wpAny_bind (wpAny_bind (wpAny_typeOf hT (wpAny_bind (wpAny_of_eq fn_mro (wpAny_of_eq (oz _) ?_)))))
 refine wpAny_bind (wpAny_typeOf hT (wpAny_bind (wpAny_of_eq hmiss (wpAny_bind (wpAny_pure ?_)))))
 dsimp only
 unfold Builtin.ObjectAttr.storeInOwnDict
 refine wpAny_bind (wpAny_of_eq (qW x) ?_)
 erw [if_neg (by decide)]
 exact h
theorem i6 (x : Addr) (fd : FuncData) (sl : Array (Option Value)) (name : Str) (v : Value) (u : Tok) (hmiss : typeLookup (.type "function") name = pure none) :
 Meets (Builtin.«object.__setattr__» ⟨[.ref x, .str name u, v], []⟩) (fun A R s => s.heap.get? x = some ⟨.type "function", none, .func fd, sl⟩ ∧
  ∀ h' tk, h'.get? x = some ⟨.type "function", some s.heap.objs.size, .func fd, sl⟩ → h'.Ns1 s.heap.objs.size (fun y => if y = name then some v else none) →
    (∀ b o, b ≠ x → s.heap.get? b = some o → h'.get? b = some o) → R (.ok (.ret .none)) { s with heap := h', toks := tk }) :=
 Meets.of_wp fun prog w A R s hs => by
  obtain ⟨h, g, d, t, os⟩ := s
  obtain ⟨hx, hq⟩ := hs
  refine pj hx rfl hmiss ?_
  have hx₁ : (h.push { cls := .type "dict", data := .dict #[] }).get? x = some ⟨.type "function", none, .func fd, sl⟩ := Heap.get?_push_of_some _ hx
  have hxs : x ≠ h.objs.size := Nat.ne_of_lt (Heap.lt_size hx)
  unfold Builtin.ObjectAttr.ownDictForStores instanceDict
  refine wpAny_bind (wpAny_bind (wpAny_loadPart hx ?_))
  dsimp only
  erw [lZ]
  refine wpAny_bind (wpAny_alloc' ?_)
  refine wpAny_bind (wpAny_update' hx₁ ?_)
  unfold dictMade
  dsimp only
  erw [fn_fin]
  refine wpAny_pure ?_
  dsimp only
  have hgd : ((h.push { cls := .type "dict", data := .dict #[] }).update x fun o => { cls := o.cls, dict := some h.objs.size, data := o.data, slots := o.slots }).get? h.objs.size
   = some { cls := .type "dict", data := .dict #[] } :=
   (Heap.get?_update_ne _ _ _ _ hxs.symm).trans (Heap.get?_push_at rfl rfl)
  have hnd : ((h.push { cls := .type "dict", data := .dict #[] }).update x fun o => { cls := o.cls, dict := some h.objs.size, data := o.data, slots := o.slots }).Ns h.objs.size (fun ux => none) :=
   ⟨_, #[], _, hgd, rfl, fun e he => absurd he (by simp), fun ux => rfl⟩
  show wpAny _ _ (Builtin.ObjectAttr.storeInDict h.objs.size (.str name u) name v) _ _ _
  unfold Builtin.ObjectAttr.storeInDict Builtin.ObjectAttr.newKeyGuard
  refine wpAny_bind (wpAny_pure (wpAny_bind (wpAny_nsSet1 (Heap.Ns1.of_empty hnd) fun h' hn' hs => ?_)))
  obtain ⟨oD, esD, epD, hoD, hdD, hcD⟩ := hn'.count (Within.cons name v Within.nil)
  refine wpAny_bind (wpAny_lookBehind hoD (by erw [hdD]; exact pastItsLine_dict (Nat.le_trans hcD (by erw [List.length_cons, List.length_nil, sizeLine_eq]; lia))) ?_)
  refine wpAny_pure ⟨_, rfl, hq h' _ ?_ ?_ fun b ob hbx hb => ?_⟩
  · refine (hs.2 x hxs).trans (Heap.get?_update_self _ hx₁ rfl)
  · obtain ⟨o', es, ep, e1, e2, e3, eu, e4⟩ := hn'
    exact ⟨o', es, ep, e1, e2, e3, eu, e4⟩
  · exact (hs.2 b (Nat.ne_of_lt (Heap.lt_size hb))).trans ((Heap.get?_update_ne _ _ _ _ hbx).trans (Heap.get?_push_of_some _ hb))
theorem jV (x dx : Addr) (fd : FuncData) (sl : Array (Option Value)) (mA : Str → Option Value) (ns : List Str) (name : Str) (v : Value) (u : Tok) (hmiss : typeLookup (.type "function") name = pure none) (hw : Within mA ns) (hsz : ns.length < 1000) :
 Meets (Builtin.«object.__setattr__» ⟨[.ref x, .str name u, v], []⟩) (fun A R s => s.heap.get? x = some ⟨.type "function", some dx, .func fd, sl⟩ ∧ s.heap.Ns1 dx mA ∧
  ∀ h' tk, h'.Ns1 dx (fun y => if y = name then some v else mA y) → Heap.SameBut dx s.heap h' → R (.ok (.ret .none)) { s with heap := h', toks := tk }) :=
 Meets.of_wp fun prog w A R s hs => by
  obtain ⟨h, g, d, t, os⟩ := s
  obtain ⟨hx, hns, hq⟩ := hs
  refine pj hx rfl hmiss ?_
  unfold Builtin.ObjectAttr.ownDictForStores instanceDict
  refine wpAny_bind (wpAny_bind (wpAny_loadPart hx ?_))
  dsimp only
  refine wpAny_pure ?_
  show wpAny _ _ (Builtin.ObjectAttr.storeInDict dx (.str name u) name v) _ _ _
  unfold Builtin.ObjectAttr.storeInDict Builtin.ObjectAttr.newKeyGuard
  refine wpAny_bind (wpAny_pure (wpAny_bind (wpAny_nsSet1 hns fun h' hn' hs => ?_)))
  obtain ⟨oD, esD, epD, hoD, hdD, hcD⟩ := hn'.count (Within.cons name v hw)
  refine wpAny_bind (wpAny_lookBehind hoD (by erw [hdD]; exact pastItsLine_dict (Nat.le_trans hcD (by erw [List.length_cons, sizeLine_eq]; lia))) ?_)
  exact wpAny_pure ⟨_, rfl, hq h' _ hn' hs⟩
theorem md_slot : Slot "method_descriptor" "__get__" "method_descriptor.__get__" :=
 .of (owner := "method_descriptor") (n := "__get__") (by erw [typeLookup_type, builtinLookup_eq_fast]; kernel_rfl) (by decide +kernel) (by decide +kernel) (by decide +kernel)
  (by first | exact .inl (by decide +kernel) | exact .inr (by decide +kernel)) (by erw [isSubtype_type]; kernel_rfl)
theorem pY : entryFor table "method_descriptor.__get__" = some Builtin.«method_descriptor.__get__» := entryFor_of_tree (by kernel_rfl)
theorem md_args (a b c : Value) : argsOk "method_descriptor.__get__" ⟨[a, b, c], []⟩ := by unfold argsOk; kernel_rfl
theorem md_type {s : Shared} : s.TypeIs (.builtin "list.append") "method_descriptor" := by
 show _ = _
 kernel_rfl
theorem q9 : typeLookup (.type "method_descriptor") "__set__" = pure none := by erw [typeLookup_type, builtinLookup_eq_fast]; kernel_rfl
theorem qf : typeLookup (.type "method_descriptor") "__delete__" = pure none := by erw [typeLookup_type, builtinLookup_eq_fast]; kernel_rfl
theorem qI : isSubtype (.type "list") (.type (".".intercalate ("list.append".cutAt '.').dropLast)) = pure true := by
 have e : ".".intercalate ("list.append".cutAt '.').dropLast = "list" := by decide +kernel
 erw [e, isSubtype_type]; kernel_rfl
theorem ij : typeLookup (.type "list") "__getattr__" = pure none := am_list_getattr_none
noncomputable abbrev dn (L : Addr) : Obj := { cls := .type "builtin_function_or_method", data := .fields #[.builtin "list.append", .ref L] }
theorem gX (L : Addr) (items : Array Value) (n : Nat) :
 Meets (Builtin.«method_descriptor.__get__» ⟨[.builtin "list.append", .ref L, .type "list"], []⟩) (fun A R s => s.heap.get? L = some ⟨.type "list", none, .seq items n, #[]⟩ ∧ R (.ok (.ret (.ref s.heap.objs.size))) { s with heap := s.heap.push (dn L) }) :=
 Meets.of_wp fun prog w A R s hs => by
  obtain ⟨hp, g, dr, tk, os⟩ := s
  obtain ⟨hx, hs⟩ := hs
  have hT : (⟨hp, g, dr, tk, os⟩ : Shared).TypeIs (.ref L) "list" := ⟨_, hx, rfl⟩
  unfold Builtin.«method_descriptor.__get__»
  repeat (any_goals (first | assumption | wp_step))
  refine wpAny_of_eq qI ?_
  simp only [Bool.not_true, Bool.false_eq_true, if_false]
  refine wpAny_pure ?_
  unfold newFields
  refine wpAny_bind (wpAny_newObj_type (wpAny_pure ⟨_, rfl, hs⟩) (by size_fits))
theorem lQ : typeLookup (.type "list") "append" = pure (some (.builtin "list.append")) := PySem.F.slot_list_append.lookup
theorem gf (L : Addr) (items : Array Value) (n : Nat) (u : Tok) :
 Meets (Builtin.«object.__getattribute__» ⟨[.ref L, .str "append" u], []⟩) (fun A R s => s.heap.get? L = some ⟨.type "list", none, .seq items n, #[]⟩ ∧ R (.ok (.ret (.ref s.heap.objs.size))) { s with heap := s.heap.push (dn L) }) :=
 Meets.of_wp fun prog w A R s hs => by
  obtain ⟨hp, g, dr, tk, os⟩ := s
  obtain ⟨hx, hs⟩ := hs
  have hT : (⟨hp, g, dr, tk, os⟩ : Shared).TypeIs (.ref L) "list" := ⟨_, hx, rfl⟩
  have f1 := lQ
  have f2 := PySem.F.type_list_append
  have f3 := md_slot.lookup
  have f4 := q9
  have f5 := qf
  have f6 := md_slot.bind (.builtin "list.append")
  unfold Builtin.«object.__getattribute__»
  repeat (any_goals (first | assumption | ((with_reducible show wpAny _ _ (call (Value.builtin "method_descriptor.__get__") _ _) _ _ _); refine call_meets md_slot md_type pY (md_args _ _ _) (gX L items n) ⟨hx, ?_⟩) | wp_step))
  exact wpAny_pure ⟨_, rfl, hs⟩
theorem gV {s : Shared} {L : Addr} {items : Array Value} {n : Nat} {b : Bool} {Q E : Value → Shared → Prop} (hx : s.heap.get? L = some ⟨.type "list", none, .seq items n, #[]⟩)
 (h : ∀ tk, Q (.ref s.heap.objs.size) { s with heap := s.heap.push (dn L), toks := tk }) : wpAny (model prog w) A (getAttr (.ref L) "append" b) Q E s := by
 obtain ⟨hp, g, dr, tk, os⟩ := s
 have hT : ∀ tk', (⟨hp, g, dr, tk', os⟩ : Shared).TypeIs (.ref L) "list" := fun ux => ⟨_, hx, rfl⟩
 have f3 := PySem.F.slot_list_getattribute.lookup
 have f4 := PySem.F.slot_list_getattribute.bind (.ref L)
 have f5 := ij
 cases b <;> unfold getAttr getAttrBy <;>
 repeat (any_goals (first | assumption | exact hT _ | ((with_reducible show wpAny _ _ (call (Value.builtin "list.__getattribute__") _ _) _ _ _); refine call_meets PySem.F.slot_list_getattribute (hT _) am_entry_list_getattribute (PySem.F.args_list_getattribute_2 _ _) (gf L items n _) ⟨hx, ?_⟩) | wp_step))
 all_goals exact wpAny_pure (h _)
end
set_option tactic.hygienic false
section
variable {prog : Program} {w : World} {A : Around}
theorem n8 (sig : Manifest.Signature) (hs : Manifest.signature? "list.append" = some sig) (a b : Value) : Bind.checkArgs "list.append" { sig with full := s!"{Bind.lastOf "list"}.{Bind.lastOf "list.append"}" } ⟨[a, b], []⟩ = pure () := by
 rw [signature?_of (id := "list.append") (n := ['d', 'n', 'e', 'p', 'p', 'a']) (o := ['t', 's', 'i', 'l']) (by kernel_rfl) PySem.F.owner_list] at hs
 have e := congrArg (fun o => Option.getD o (⟨.positional, "", "", .self, []⟩ : Manifest.Signature)) hs
 have e : _ = sig := e
 rw [← e]
 kernel_rfl
theorem ph : builtinKind "list.append" = some .method := by decide +kernel
theorem app_va : Manifest.varargsMethods.contains "list.append" = false := by decide +kernel
theorem mn : isSubtype (.type "list") (.type "module") = pure false := by erw [isSubtype_type]; kernel_rfl
theorem mh {m L : Addr} {items : Array Value} {n : Nat} {v : Value} {s : Shared} {Q E : Value → Shared → Prop} (hm : s.heap.get? m = some (dn L)) (hl : s.heap.get? L = some ⟨.type "list", none, .seq items n, #[]⟩) (hsz : items.size ≤ sizeLine)
 (h : ∀ h', Heap.SameBut L s.heap h' → h'.get? L = some ⟨.type "list", none, .seq (items.push v) (n + 1), #[]⟩ → Q .none { s with heap := h' }) : wpAny (model prog w) A (call (.ref m) [v]) Q E s := by
 have hT : s.TypeIs (.ref L) "list" := ⟨_, hl, rfl⟩
 refine wpAny_call (codeAny_of_tree ?_)
 show wpAny _ _ (callAny (.ref m) ⟨[v], []⟩) _ _ s
 unfold callAny
 refine wpAny_bind (wpAny_load hm ?_)
 dsimp only
 erw [if_pos (by decide)]
 show wpAny _ _ (if _ then _ else _) _ _ _
 erw [if_pos (by decide)]
 have tail : wpAny (model prog w) (A.under (Code.call (Value.ref m) { pos := [v] })) (again (Code.builtin "list.append" { pos := [.ref L, v] })) (fun fin s' =>
  match fin with
  | Fin.done f =>
    match Except.ok f with
    | Except.ok (Flow.ret v) => Q v s'
    | Except.ok a => False
    | Except.error e => E e s'
  | Fin.again c' =>
    c'.quiet = true ∧
     codeAny (model prog w) A c'
      (fun r s' =>
       match r with
       | Except.ok (Flow.ret v) => Q v s'
       | Except.ok a => False
       | Except.error e => E e s')
      s') (fun e s' => E e s') s := by
  refine wpAny_pure ⟨plainId_quiet PySem.F.slot_list_append.plain _, codeAny_builtin PySem.F.entry_list_append ?_⟩
  erw [Around.under_plainId PySem.F.slot_list_append.plain _]
  show wpAny _ _ (updateSeq L (·.push v) >>= fun ux => ret .none) _ _ s
  refine wpAny_bind (wpAny_updateSeq hl rfl (wpAny_pure (h _ (Heap.SameBut.update ..) ?_)) hsz)
  erw [Heap.get?_update_self _ hl (by erw [mapSeq_push]; rfl), mapSeq_push]
 refine wpAny_bind ?_
 unfold checkBoundCall
 cases hs : Manifest.signature? "list.append" with
 | none =>
   exact wpAny_pure tail
 | some sig =>
   erw [ph]
   dsimp only
   erw [if_neg (by decide)]
   refine wpAny_bind (wpAny_isInstance hT mn ?_)
   erw [app_va]
   simp only [Bool.or_false, Bool.false_eq_true, if_false]
   unfold isType loadHead
   refine wpAny_bind (wpAny_bind (wpAny_loadPart hl ?_))
   dsimp only
   refine wpAny_pure ?_
   simp only [Bool.false_eq_true, if_false]
   refine wpAny_bind (wpAny_typeOf hT ?_)
   dsimp only
   refine wpAny_of_eq (n8 sig hs _ _) ?_
   exact tail
end
set_option tactic.hygienic false
section
variable {prog : Program} {w : World} {A : Around}
theorem lr (a d : Addr) (fd : FuncData) (sl : Array (Option Value)) (m : Str → Option Value) (name : Str) (u : Tok) (hmiss : typeLookup (.type "function") name = pure none) (hm : m name = none) (hname : (["__module__", "__name__", "__qualname__", "__doc__", "__annotations__"] : List Str).contains name = false) (hsz : name.length + 100 ≤ sizeLine) :
 Meets (Builtin.«object.__getattribute__» ⟨[.ref a, .str name u], []⟩) (fun A R s => s.heap.get? a = some ⟨.type "function", some d, .func fd, sl⟩ ∧ s.heap.Ns d m ∧ raisesAttr (.ref a) name A R s) :=
 Meets.of_wp fun prog w A R s hs => by
  obtain ⟨hp, g, dr, tk, os⟩ := s
  obtain ⟨hx, hn, hs⟩ := hs
  have hT : (⟨hp, g, dr, tk, os⟩ : Shared).TypeIs (.ref a) "function" := ⟨_, hx, rfl⟩
  unfold Builtin.«object.__getattribute__»
  repeat (any_goals (first | assumption | ((with_reducible show wpAny _ _ (Builtin.ObjectAttr.inDict _ (some _)) _ _ _); refine wpAny_nsGet hn ?_; erw [hm]) | wp_step))
  simp only [hname, Bool.false_eq_true, if_false]
  repeat (any_goals (first | assumption | wp_step))
  exact wpAny_raiseAttrError hs.1 hs.2 (attrMsg_fits (by decide +kernel) hsz)
theorem ha_kind : builtinKind "hasattr" = none := by decide +kernel
theorem qV : plainId "hasattr" = true := by decide +kernel
theorem qJ : entryFor table "hasattr" = some Builtin.«hasattr» := entryFor_of_tree (by kernel_rfl)
theorem ha_args (a b : Value) : argsOk "hasattr" ⟨[a, b], []⟩ := by unfold argsOk; kernel_rfl
theorem fQ {T : String} {a : Addr} {name : Str} {u : Tok} {s : Shared} {Q E : Value → Shared → Prop} {r : Bool} (hT : s.TypeIs (.ref a) T) (hmiss : typeLookup (.type T) name = pure none) (hmod : isSubtype (.type T) (.type "module") = pure false)
 (hg : ∀ (A' : Around) (Q' : Option Value → Shared → Prop) (E' : Value → Shared → Prop), A'.handled = A.handled → (∀ x s', x.isSome = r → Q (.bool r) s' → Q' x s') → wpAny (model prog w) A' (getAttrBy? (.ref a) (.str name u)) Q' E' s) : wpAny (model prog w) A (call (.builtin "hasattr") [.ref a, .str name u]) Q E s := by
 refine Calls.call_function_entry ha_kind qV qJ (ha_args _ _) ?_
 obtain ⟨hp, g, dr, tk, os⟩ := s
 unfold Builtin.«hasattr»
 repeat (any_goals (first | assumption | ((with_reducible show wpAny _ _ (getAttrBy? _ _) _ _ _); refine hg _ _ _ rfl fun x s' hx hq => ?_) | wp_step))
 cases x with
 | none =>
   subst hx
   first | exact wpAny_pure ⟨_, rfl, hq⟩ | exact ⟨_, rfl, hq⟩
 | some y =>
   subst hx
   first | exact wpAny_pure ⟨_, rfl, hq⟩ | exact ⟨_, rfl, hq⟩
theorem kU : isSubtype (.type "function") (.type "module") = pure false := by erw [isSubtype_type]; kernel_rfl
theorem mr : isSubtype (.type "dict") (.type "module") = pure false := by erw [isSubtype_type]; kernel_rfl
theorem lD : isSubtype (.type "list") (.type "module") = pure false := by erw [isSubtype_type]; kernel_rfl
theorem mu {a d : Addr} {fd : FuncData} {sl : Array (Option Value)} {m : Str → Option Value} {name : Str} {v : Value} {u : Tok} {s : Shared} {Q E : Value → Shared → Prop} (hx : s.heap.get? a = some ⟨.type "function", some d, .func fd, sl⟩) (hn : s.heap.Ns d m)
 (hmiss : typeLookup (.type "function") name = pure none) (hm : m name = some v) (hv : ∀ id, v ≠ .builtin id) (h : Q (.bool true) s) : wpAny (model prog w) A (call (.builtin "hasattr") [.ref a, .str name u]) Q E s := by
 refine fQ (r := true) ⟨_, hx, rfl⟩ hmiss kU fun A' Q' E' ux hq => ?_
 obtain ⟨hp, g, dr, tk, os⟩ := s
 have hT : (⟨hp, g, dr, tk, os⟩ : Shared).TypeIs (.ref a) "function" := ⟨_, hx, rfl⟩
 have f3 := ga_slot.lookup
 have f4 := ga_slot.bind (.ref a)
 have f5 := g9
 have hh : handedOut v = pure v := by
  cases v with
  | builtin id => exact absurd rfl (hv id)
  | _ => rfl
 unfold getAttrBy? getAttrBy
 repeat (any_goals (first | assumption | ((with_reducible show wpAny _ _ (call (Value.builtin "object.__getattribute__") _ _) _ _ _); refine call_meets ga_slot hT iG (jw _ _) (fS a d fd sl m name v _ hmiss hm) ⟨hx, hn, ?_⟩) | wp_step))
 exact hq _ _ rfl h
theorem dq {T ga : String} {a : Addr} {name : Str} {u : Tok} {s : Shared} {Q E : Value → Shared → Prop} (hT : s.TypeIs (.ref a) T) (hmiss : typeLookup (.type T) name = pure none) (hmod : isSubtype (.type T) (.type "module") = pure false)
 (f3 : typeLookup (.type T) "__getattribute__" = pure (some (.builtin ga))) (f4 : bindSpecial (.builtin ga) (.ref a) = pure (.builtin ga, [.ref a])) (f5 : typeLookup (.type T) "__getattr__" = pure none)
 (hh : A.handled = none) (hc : ∀ (A' : Around) (Q' E' : Value → Shared → Prop), A'.handled = none → (∀ h' tk e, Heap.NewAttrErr s.heap h' e (.ref a) name → E' (.ref e) { s with heap := h', toks := tk }) → wpAny (model prog w) A' (call (.builtin ga) [.ref a, .str name u]) Q' E' s)
 (h : ∀ h' tk, (∀ b o, s.heap.get? b = some o → h'.get? b = some o) → Q (.bool false) { s with heap := h', toks := tk }) : wpAny (model prog w) A (call (.builtin "hasattr") [.ref a, .str name u]) Q E s := by
 refine fQ (r := false) hT hmiss hmod fun A' Q' E' hA' hq => ?_
 obtain ⟨hp, g, dr, tk, os⟩ := s
 unfold getAttrBy? getAttrBy
 have f6 := sub_AttributeError
 repeat (any_goals (first | assumption | ((with_reducible show wpAny _ _ (call (Value.builtin ga) _ _) _ _ _); refine hc _ _ _ (hA'.trans hh) fun h' tk e hx' => ?_) | wp_step))
 obtain ⟨t', u', he⟩ := hx'.there
 repeat (any_goals (first | assumption | wp_step))
 refine hq _ _ rfl (h _ _ hx'.keeps)
theorem i5 {a d : Addr} {fd : FuncData} {sl : Array (Option Value)} {m : Str → Option Value} {name : Str} {u : Tok} {s : Shared} {Q E : Value → Shared → Prop} (hx : s.heap.get? a = some ⟨.type "function", some d, .func fd, sl⟩) (hn : s.heap.Ns d m)
 (hmiss : typeLookup (.type "function") name = pure none) (hm : m name = none) (hname : (["__module__", "__name__", "__qualname__", "__doc__", "__annotations__"] : List Str).contains name = false) (hsz : name.length + 100 ≤ sizeLine) (hh : A.handled = none)
 (h : ∀ h' tk, (∀ b o, s.heap.get? b = some o → h'.get? b = some o) → Q (.bool false) { s with heap := h', toks := tk }) : wpAny (model prog w) A (call (.builtin "hasattr") [.ref a, .str name u]) Q E s :=
 dq ⟨_, hx, rfl⟩ hmiss kU ga_slot.lookup (ga_slot.bind _) g9 hh (fun A' Q' E' hA' he => call_meets ga_slot ⟨_, hx, rfl⟩ iG (jw _ _) (lr a d fd sl m name u hmiss hm hname hsz) ⟨hx, hn, hA', fun h' tk e x => he h' tk e x⟩) h
theorem jR {a : Addr} {xs : Array Value} {k : Nat} {sl : Array (Option Value)} {name : Str} {u : Tok} {s : Shared} {Q E : Value → Shared → Prop} (hx : s.heap.get? a = some ⟨.type "list", none, .seq xs k, sl⟩)
 (hmiss : typeLookup (.type "list") name = pure none) (hname : (["__module__", "__name__", "__qualname__", "__doc__", "__annotations__"] : List Str).contains name = false) (hsz : name.length + 100 ≤ sizeLine) (hh : A.handled = none)
 (h : ∀ h' tk, (∀ b o, s.heap.get? b = some o → h'.get? b = some o) → Q (.bool false) { s with heap := h', toks := tk }) : wpAny (model prog w) A (call (.builtin "hasattr") [.ref a, .str name u]) Q E s :=
 dq ⟨_, hx, rfl⟩ hmiss lD PySem.F.slot_list_getattribute.lookup (PySem.F.slot_list_getattribute.bind _) am_list_getattr_none hh (fun A' Q' E' hA' he => call_meets PySem.F.slot_list_getattribute ⟨_, hx, rfl⟩ am_entry_list_getattribute (PySem.F.args_list_getattribute_2 _ _) (meets_getattribute_miss_list a xs k sl name u hmiss hname hsz) ⟨hx, hA', fun h' tk e x => he h' tk e x⟩) h
theorem j6 {a : Addr} {es : Array DictEntry} {k : Nat} {sl : Array (Option Value)} {name : Str} {u : Tok} {s : Shared} {Q E : Value → Shared → Prop} (hx : s.heap.get? a = some ⟨.type "dict", none, .dict es k, sl⟩)
 (hmiss : typeLookup (.type "dict") name = pure none) (hname : (["__module__", "__name__", "__qualname__", "__doc__", "__annotations__"] : List Str).contains name = false) (hsz : name.length + 100 ≤ sizeLine) (hh : A.handled = none)
 (h : ∀ h' tk, (∀ b o, s.heap.get? b = some o → h'.get? b = some o) → Q (.bool false) { s with heap := h', toks := tk }) : wpAny (model prog w) A (call (.builtin "hasattr") [.ref a, .str name u]) Q E s :=
 dq ⟨_, hx, rfl⟩ hmiss mr PySem.F.slot_dict_getattribute.lookup (PySem.F.slot_dict_getattribute.bind _) am_dict_getattr_none hh (fun A' Q' E' hA' he => call_meets PySem.F.slot_dict_getattribute ⟨_, hx, rfl⟩ am_entry_dict_getattribute (PySem.F.args_dict_getattribute_2 _ _) (meets_getattribute_miss_dict a es k sl name u hmiss hname hsz) ⟨hx, hA', fun h' tk e x => he h' tk e x⟩) h
end
section
open PyProof.V
set_option tactic.hygienic false
section
variable {prog : Program} {w : World} {K : Type} [DecidableEq K] {knd : KeyKind prog w K} {A : Around} {E : Value → Shared → Prop} {s : Shared}
theorem iZ {d : Addr} {kvs : List (K × Value)} {k : K} {key v : Value} {hash : Int} {Q : Unit → Shared → Prop} (hkey : knd.is k key = true) (hh : hash = knd.hash k) (hm : s.heap.DictOf knd d kvs)
 (hQ : ∀ h', h'.DictOf knd d (stored kvs k v) → Heap.SameBut d s.heap h' → Q () { s with heap := h' }) (hsz : kvs.length ≤ sizeLine) :
 wpAny (model prog w) A (dictPut d hash key v) Q E s := by
 subst hh
 obtain ⟨o, es, ep, ho, hc, hd, hk, hp, hn⟩ := hm
 have hes : es.size ≤ sizeLine := by have e1 := hp.length; have e2 : es.toList.length = es.size := by simp
                                     lia
 unfold dictPut
 refine wpAny_bind (wpAny_dictFind_of hkey ho hd hk ?_)
 have hidx : (es.findIdx? fun e => knd.is k e.key) = kvs.findIdx? fun kv => decide (kv.1 = k) := by
  rw [← hp.findIdx k]; obtain ⟨l⟩ := es; simp
 cases hi : es.findIdx? fun e => knd.is k e.key with
 | some i =>
   refine wpAny_updateDict ho hd (hQ _ ⟨_, _, ep, Heap.get?_update_self _ ho (Obj.isFreed_of_dict (Obj.data_mapDict hd _)),
    hc.mapDict _, Obj.data_mapDict hd _, hk.modify _ _, ?_, ?_⟩ (Heap.SameBut.update ..))
   · erw [stored, if_pos (any_of_findIdx_some (hidx ▸ hi))]
     have hl : (es.toList.findIdx? fun e => knd.is k e.key) = some i := by rw [← hi]; obtain ⟨l⟩ := es; simp
     have := hp.modify hn hl v
     obtain ⟨l⟩ := es
     simpa using this
   · erw [stored, if_pos (any_of_findIdx_some (hidx ▸ hi)), keys_map_store]; exact hn
 | none =>
   have hnot : k ∉ kvs.map (·.1) := not_mem_of_findIdx_none (hidx ▸ hi)
   have hany : ¬ (kvs.any fun kv => decide (kv.1 = k)) = true := by
    erw [List.any_eq_true]; rintro ⟨kv, hkv, he⟩
    exact hnot (List.mem_map.mpr ⟨kv, hkv, of_decide_eq_true he⟩)
   refine wpAny_updateDictKeys (hz := hes) ho hd (hQ _ ⟨_, _, ep + 1, Heap.get?_update_self _ ho (Obj.isFreed_of_dict (Obj.data_mapDictKeys hd _)),
    hc.mapDictKeys _, Obj.data_mapDictKeys hd _, hk.push hkey _, ?_, ?_⟩ (Heap.SameBut.update ..))
   · erw [stored, if_neg hany]
     have := hp.append hkey (knd.hash k) v
     obtain ⟨l⟩ := es
     simpa using this
   · erw [stored, if_neg hany, List.map_append, List.nodup_append]
     refine ⟨hn, by simp, ?_⟩
     intro a ha b hb
     simp only [List.map_cons, List.map_nil, List.mem_singleton] at hb
     subst hb
     exact fun e => hnot (e ▸ ha)
theorem o0 {d a : Addr} {acc kvs : List (Str × Value)} {Q : Unit → Shared → Prop} (ha : (a == sysModules) = false) (hda : d ≠ a) (hd : s.heap.DictOf (strKind prog w) d acc) (hm : s.heap.DictOf (strKind prog w) a kvs) (hsz : acc.length + kvs.length ≤ sizeLine)
 (hQ : ∀ h', h'.DictOf (strKind prog w) d (merged acc kvs) → Heap.SameBut d s.heap h' → Q () { s with heap := h' }) : wpAny (model prog w) A (mergeMapping d (.ref a) false) Q E s := by
 have hT := hm.typeIs
 have hm0 := hm
 obtain ⟨o, es, ep, ho, hc, hdt, hk, hp, hn⟩ := hm
 obtain ⟨od, ed, pd, hod, hcd, hdd, _⟩ := id hd
 unfold mergeMapping
 refine wpAny_bind (wpAny_isInstance hT PySem.F.sub_dict_dict ?_)
 erw [if_pos rfl]
 refine wpAny_bind (wpAny_specialOf hT PySem.F.slot_dict_iter.lookup (wpAny_bind (wpAny_pure ?_)))
 erw [show (some (Value.builtin "dict.__iter__") == some (Value.builtin "dict.__iter__")) = true by decide]
 dsimp only
 erw [if_neg (by erw [ha]; decide)]
 have keyss : ∀ e ∈ es.toList, ∃ x t, e.key = .str x t := by
  intro e he
  obtain ⟨k, hk1, _⟩ := hk e (by simpa using he)
  obtain ⟨t, ht⟩ := Value.isStrOf_shape hk1
  exact ⟨k, t, ht⟩
 have main : wpAny (model prog w) A (do
  let __do_lift ← dictEntries a
  have size : Nat := __do_lift.size
  let epoch ← dictEpoch a
  forIn (List.range size) PUnit.unit fun i __s => do
   let __do_lift ← dictEntries a
   match __do_lift[i]? with
    | some e => do
      holding [e.key, e.val]
       (have __do_jp := fun __r => dictPut d e.hash e.key e.val;
       if false = true then do
        let __do_lift ← dictFind d e.key e.hash
        if __do_lift.isSome = true then do
         rule "dict.merge.duplicate-key"
         let __do_lift ← newExc (Value.type "KeyError") [e.key]
         let __r ← raiseNew __do_lift
         __do_jp __r
         else __do_jp ()
       else __do_jp ())
      let __do_lift ← dictEpoch a
      if (__do_lift != epoch) = true then do
       unsupported "dict.changed-during-merge"
       pure (ForInStep.yield PUnit.unit)
       else pure (ForInStep.yield PUnit.unit)
    | x => do
      unsupported "dict.changed-during-merge"
      pure (ForInStep.yield PUnit.unit)
  pure ()) Q E s := by
  refine wpAny_bind (wpAny_dictEntries ho hdt (wpAny_bind (wpAny_dictEpoch ho hdt (wpAny_bind ?_))))
  have hlen : es.size = kvs.length := by have e1 := hp.length; have e2 : es.toList.length = es.size := by simp
                                         lia
  have loop : ∀ (n i : Nat) (acc : List (Str × Value)) (s : Shared) (Q : PUnit → Shared → Prop), i + n = es.size → s.heap.get? a = some o → s.heap.DictOf (strKind prog w) d acc → acc.length + n ≤ sizeLine →
   (∀ h', h'.DictOf (strKind prog w) d (merged acc (kvs.drop i)) → Heap.SameBut d s.heap h' → Q PUnit.unit { s with heap := h' }) →
   wpAny (model prog w) A (forIn (List.range' i n) PUnit.unit fun i __s => do
    let __do_lift ← dictEntries a
    match __do_lift[i]? with
     | some e => do
       holding [e.key, e.val]
        (have __do_jp := fun __r => dictPut d e.hash e.key e.val;
        if false = true then do
         let __do_lift ← dictFind d e.key e.hash
         if __do_lift.isSome = true then do
          rule "dict.merge.duplicate-key"
          let __do_lift ← newExc (Value.type "KeyError") [e.key]
          let __r ← raiseNew __do_lift
          __do_jp __r
          else __do_jp ()
        else __do_jp ())
       let __do_lift ← dictEpoch a
       if (__do_lift != ep) = true then do
        unsupported "dict.changed-during-merge"
        pure (ForInStep.yield PUnit.unit)
        else pure (ForInStep.yield PUnit.unit)
     | x => do
       unsupported "dict.changed-during-merge"
       pure (ForInStep.yield PUnit.unit)) Q E s := by
   intro n
   induction n with
   | zero =>
     intro i acc s Q hi ho hd hs hQ
     erw [List.range'_zero, List.forIn_nil]
     refine wpAny_pure (hQ s.heap ?_ (Heap.SameBut.refl _ _))
     erw [List.drop_eq_nil_of_le (by lia)]
     exact hd
   | succ n ih =>
     intro i acc s Q hi ho hd hs hQ
     erw [List.range'_succ, List.forIn_cons]
     refine wpAny_bind (wpAny_bind (wpAny_dictEntries ho hdt ?_))
     have hlt : i < es.size := by lia
     obtain ⟨kv, hkv⟩ : ∃ kv, kvs[i]? = some kv := ⟨_, List.getElem?_eq_getElem (by lia)⟩
     have hei : es[i]? = some es[i] := Array.getElem?_eq_getElem hlt
     erw [hei]
     dsimp only
     have hpi : (strKind prog w).is kv.1 es[i].key = true ∧ es[i].val = kv.2 := by
      have : ∀ {l : List DictEntry} {m : List (Str × Value)} (h : Pairs (strKind prog w) l m) (j : Nat) (e : DictEntry) (kv : Str × Value), l[j]? = some e → m[j]? = some kv → (strKind prog w).is kv.1 e.key = true ∧ e.val = kv.2 := by
       intro l m h
       induction h with
       | nil => intro j e kv h1; simp at h1
       | cons h1 h2 h3 ih =>
         intro j e kv e1 e2
         cases j with
         | zero => simp at e1 e2; subst e1 e2; exact ⟨h1, h2⟩
         | succ j => simp at e1 e2; exact ih j e kv e1 e2
      exact this hp i _ _ (by simp [hlt]) hkv
     obtain ⟨k0, hk0, hh0⟩ := hk es[i] (Array.getElem_mem hlt)
     have ek : k0 = kv.1 := (strKind prog w).inj es[i].key k0 kv.1 hk0 hpi.1
     rw [ek] at hh0
     have hdrop : kvs.drop i = kv :: kvs.drop (i + 1) := by
      erw [List.drop_eq_getElem_cons (by lia)]
      rw [List.getElem?_eq_getElem (by lia)] at hkv
      erw [Option.some.inj hkv]
     refine wpAny_bind (wpAny_holding (iZ hpi.1 hh0 hd (fun h₁ hd₁ hs₁ => ?_) (by lia)))
     have ho₁ : h₁.get? a = some o := (hs₁.2 a hda.symm).trans ho
     refine wpAny_bind (wpAny_dictEpoch (s := { s with heap := h₁ }) ho₁ hdt ?_)
     erw [if_neg (by simp)]
     refine wpAny_pure ?_
     refine ih (i + 1) (stored acc kv.1 es[i].val) { s with heap := h₁ } Q (by lia) ho₁ hd₁ (by have := stored_length_le acc kv.1 es[i].val; lia) fun h' hd' hs' => ?_
     refine hQ h' ?_ (hs₁.trans hs')
     erw [hdrop]
     rw [hpi.2] at hd'
     simpa [merged] using hd'
  erw [List.range_eq_range']
  refine loop es.size 0 acc s _ (by lia) ho hd (by lia) fun h' hd' hs' => wpAny_pure (hQ h' ?_ hs')
  simpa using hd'
 refine wpAny_bind (wpAny_dictEntries hod hdd ?_)
 split
 · refine wpAny_bind (wpAny_dictEntries ho hdt (wpAny_bind ?_))
   have : ∀ (l : List DictEntry), (∀ e ∈ l, ∃ x t, e.key = .str x t) → ∀ (Q : PUnit → Shared → Prop), Q PUnit.unit s → wpAny (model prog w) A (forIn l PUnit.unit fun (e : DictEntry) (__s : PUnit) =>
    match e.key with
    | Value.ref a => do
      let __do_lift ← specialOf e.key ("__eq__":Str)
      if (__do_lift != some (Value.builtin "object.__eq__")) = true then
       if (Array.filter (fun x => x.hash == e.hash) es).size > 1 then do
        unsupported "dict.merge-into-an-empty-dict:keys-of-equal-hash"
        pure (ForInStep.yield PUnit.unit)
       else pure (ForInStep.yield PUnit.unit)
       else pure (ForInStep.yield PUnit.unit)
    | x => (pure (ForInStep.yield PUnit.unit) : Sem _)) Q E s := by
    intro l
    induction l with
    | nil => intro _ Q hq; erw [List.forIn_nil]; exact wpAny_pure hq
    | cons e l ih =>
      intro hl Q hq
      obtain ⟨x, t, ek⟩ := hl e (.head _)
      erw [List.forIn_cons, ek]
      exact wpAny_bind (wpAny_pure (ih (fun e he => hl e (.tail _ he)) Q hq))
   rw [← Array.forIn_toList]
   exact this es.toList keyss _ main
 · exact main
end
noncomputable def DR (G : Mem) : List (Str × D) → List (Str × Value) → Prop
 | [], kvs => kvs = []
 | (k, d) :: ds, kvs => ∃ v r, kvs = (k, v) :: r ∧ Rp G d v ∧ DR G ds r
theorem DR.mono {G G' : Mem} (le : Le G G') : ∀ {ds : List (Str × D)} {kvs : List (Str × Value)}, DR G ds kvs → DR G' ds kvs
 | [], _, h => h
 | (_, _) :: _, _, ⟨v, r, e, a, b⟩ => ⟨v, r, e, a.mono le, DR.mono le b⟩
theorem DR.keys {G : Mem} : ∀ {ds : List (Str × D)} {kvs : List (Str × Value)}, DR G ds kvs → kvs.map (·.1) = ds.map (·.1)
 | [], _, h => by have h : _ = [] := h; subst h; rfl
 | (_, _) :: _, _, ⟨v, r, e, a, b⟩ => by subst e; erw [List.map_cons, List.map_cons, DR.keys b]
theorem DR.length {G : Mem} {ds : List (Str × D)} {kvs : List (Str × Value)} (h : DR G ds kvs) : kvs.length = ds.length := by
 have := congrArg List.length h.keys
 simpa using this
theorem DR.append {G : Mem} : ∀ {ds es : List (Str × D)} {kvs us : List (Str × Value)}, DR G ds kvs → DR G es us → DR G (ds ++ es) (kvs ++ us)
 | [], _, _, _, h, h' => by have h : _ = [] := h; subst h; exact h'
 | (_, _) :: _, _, _, _, ⟨v, r, e, a, b⟩, h' => by subst e; exact ⟨v, _, rfl, a, DR.append b h'⟩
noncomputable def bH (ds : List (Str × D)) (k : Str) (d : D) : List (Str × D) :=
 if ds.any (fun kv => decide (kv.1 = k)) then ds.map (fun kv => if kv.1 = k then (kv.1, d) else kv) else ds ++ [(k, d)]
noncomputable def aD (ds more : List (Str × D)) : List (Str × D) := more.foldl (fun acc kv => bH acc kv.1 kv.2) ds
theorem DR.any {G : Mem} (k : Str) : ∀ {ds : List (Str × D)} {kvs : List (Str × Value)}, DR G ds kvs → kvs.any (fun kv => decide (kv.1 = k)) = ds.any (fun kv => decide (kv.1 = k))
 | [], _, h => by have h : _ = [] := h; subst h; rfl
 | (_, _) :: _, _, ⟨v, r, e, a, b⟩ => by subst e; erw [List.any_cons, List.any_cons, DR.any k b]
theorem DR.put {G : Mem} {k : Str} {d : D} {v : Value} (hr : Rp G d v) : ∀ {ds : List (Str × D)} {kvs : List (Str × Value)}, DR G ds kvs → DR G (ds.map fun kv => if kv.1 = k then (kv.1, d) else kv) (kvs.map fun kv => if kv.1 = k then (kv.1, v) else kv)
 | [], _, h => by have h : _ = [] := h; subst h; rfl
 | (k', d') :: _, _, ⟨v', r, e, a, b⟩ => by
   subst e
   erw [List.map_cons, List.map_cons]
   by_cases q : k' = k
   · simp only [q, if_true]
     exact ⟨v, _, rfl, hr, DR.put hr b⟩
   · simp only [q, if_false]
     exact ⟨v', _, rfl, a, DR.put hr b⟩
theorem DR.stored {G : Mem} {k : Str} {d : D} {v : Value} {ds : List (Str × D)} {kvs : List (Str × Value)} (h : DR G ds kvs) (hr : Rp G d v) : DR G (bH ds k d) (PySem.stored kvs k v) := by
 unfold bH PySem.stored
 erw [h.any k]
 split
 · exact h.put hr
 · exact h.append ⟨v, [], rfl, hr, rfl⟩
theorem DR.merged {G : Mem} : ∀ {more : List (Str × D)} {us : List (Str × Value)} {ds : List (Str × D)} {kvs : List (Str × Value)}, DR G ds kvs → DR G more us → DR G (aD ds more) (PySem.merged kvs us)
 | [], _, _, _, h, h' => by have h' : _ = [] := h'; subst h'; exact h
 | (k, d) :: more, _, ds, kvs, h, ⟨v, r, e, a, b⟩ => by
   subst e
   show DR G (aD (bH ds k d) more) (PySem.merged (PySem.stored kvs k v) r)
   exact DR.merged (h.stored a) b
theorem DR.valueAt {G : Mem} : ∀ {ds : List (Str × D)} {kvs : List (Str × Value)}, DR G ds kvs → (kvs.map (·.1)).Nodup → ∀ {k : Str} {d : D}, (k, d) ∈ ds → ∃ v, PySem.valueAt kvs k = some v ∧ Rp G d v
 | [], _, _, _, _, _, hm => by cases hm
 | (k', d') :: ds, _, ⟨v', r, e, a, b⟩, hn, k, d, hm => by
   subst e
   rw [List.map_cons, List.nodup_cons] at hn
   unfold PySem.valueAt
   erw [List.find?_cons]
   rcases List.mem_cons.mp hm with q | q
   · cases q
     simp only [decide_true, Option.map_some]
     exact ⟨v', rfl, a⟩
   · have hne : k' ≠ k := fun z => hn.1 (by
      erw [b.keys, z]
      exact List.mem_map_of_mem (f := fun (x : Str × D) => x.1) q)
     simp only [hne, decide_false]
     obtain ⟨v, hv, rv⟩ := DR.valueAt b hn.2 q
     exact ⟨v, hv, rv⟩
noncomputable def DkO (prog : Program) (w : World) (G : Mem) (o : Obj) (ds : List (Str × D)) : Prop := ∃ kvs, o.IsDictOf (strKind prog w) kvs ∧ DR G ds kvs
theorem DkO.mono {prog : Program} {w : World} {G G' : Mem} {o : Obj} {ds : List (Str × D)} (le : Le G G') (h : DkO prog w G o ds) : DkO prog w G' o ds :=
 let ⟨kvs, a, b⟩ := h; ⟨kvs, a, b.mono le⟩
noncomputable def Kd.d (prog : Program) (w : World) (ds : List (Str × D)) : Kd := .p (fun G o => DkO prog w G o ds) fun ux ux ux le h => h.mono le
section
variable {prog : Program} {w : World} {A : Around} {E : Value → Shared → Prop} {s : Shared}
theorem m7 {G : Mem} {d : D} {v : Value} (hf : Mine.flat d = true) (hr : Rp G d v) : Flat v (toP d) := by
 cases d with
 | i n => obtain ⟨t, rfl⟩ := hr; exact Flat.int n t
 | b c => have hr : v = .bool c := hr; subst hr; exact Flat.bool c
 | s x => obtain ⟨t, rfl⟩ := hr; exact Flat.str x t
 | n => cases hf
 | l _ => cases hf
 | t _ => cases hf
 | v _ => cases hf
 | g _ _ => cases hf
theorem ou {d : D} (hf : Mine.flat d = true) : PyData.eqv (toP d) (toP d) = true := by
 cases d <;> first | (cases hf; done) | simp [toP, PyData.eqv]
theorem mZ {A : Around} {G G' : Mem} {kb : List (Str × Value)} : ∀ {ds : List (Str × D)} {ka : List (Str × Value)}, DR G ds ka → (∀ p ∈ ds, Mine.flat p.2 = true ∧ ∃ y, PySem.valueAt kb p.1 = some y ∧ Rp G' p.2 y) → KeqHits A s kb ka true
 | [], _, h, _ => by have h : _ = [] := h; subst h; exact .nil
 | (k, d) :: ds, _, ⟨v, r, e, a, b⟩, hd => by
   subst e
   obtain ⟨hf, y, hy, ry⟩ := hd _ (.head _)
   have he : SeqAt.EqAt A s v y true := by
    have := keq_flat (A := A) (s := s) (m7 hf a) (m7 hf ry)
    rw [ou hf] at this
    exact this
   exact KeqHits.hit hy he (mZ b fun p hp => hd p (.tail _ hp))
theorem gc {a b : Addr} {oa ob : Obj} {G : Mem} {ds : List (Str × D)} {Q : Value → Shared → Prop} (ha : (a == sysModules) = false) (hb : (b == sysModules) = false) (ea : s.heap.get? a = some oa) (eb : s.heap.get? b = some ob) (da : DkO prog w G oa ds) (db : DkO prog w G ob ds)
 (hf : ∀ p ∈ ds, Mine.flat p.2 = true) (hu : A.units < cLine) (h : Q (.bool true) s) : wpAny (model prog w) A (compareOp .Eq (.ref a) (.ref b)) Q E s := by
 obtain ⟨ka, ia, ra⟩ := da
 obtain ⟨kb, ib, rb⟩ := db
 have xa : s.heap.DictOf (strKind prog w) a ka := Heap.dictOf_iff.mpr ⟨oa, ea, ia⟩
 have xb : s.heap.DictOf (strKind prog w) b kb := Heap.dictOf_iff.mpr ⟨ob, eb, ib⟩
 refine keq_eq (r := true) ha hb xa xb hu (fun ux => mZ (G' := G) ra fun p hp => ⟨hf p hp, ?_⟩) ?_
 · refine rb.valueAt (by obtain ⟨_, _, _, _, _, _, hn⟩ := ib; exact hn) hp
 · erw [ra.length, rb.length]
   simpa using h
theorem o6 {a : Addr} {o : Obj} {G : Mem} {ds : List (Str × D)} {k : Str} {t : Tok} {d : D} {Q : Value → Shared → Prop} (e : s.heap.get? a = some o) (hd : DkO prog w G o ds) (hm : (k, d) ∈ ds)
 (h : ∀ v, Rp G d v → Q v { s with toks := s.toks + 1 }) : wpAny (model prog w) A (getItem (.ref a) (.str k t)) Q E s := by
 obtain ⟨kvs, i, r⟩ := hd
 have x : s.heap.DictOf (strKind prog w) a kvs := Heap.dictOf_iff.mpr ⟨o, e, i⟩
 obtain ⟨v, hv, rv⟩ := r.valueAt (by obtain ⟨_, _, _, _, _, _, hn⟩ := i; exact hn) hm
 exact wpAny_getItem_of (strKind_is prog w k t) x.mapOf hv (h v rv)
theorem l0 {a : Addr} {o : Obj} {G : Mem} {ds : List (Str × D)} {k : Str} {t : Tok} {d : D} {v : Value} {Q : Unit → Shared → Prop} (e : s.heap.get? a = some o) (hd : DkO prog w G o ds) (hr : Rp G d v) (hsz : ds.length ≤ 1000)
 (h : ∀ h' o', h'.get? a = some o' → DkO prog w G o' (bH ds k d) → Heap.SameBut a s.heap h' → Q () { s with heap := h', toks := s.toks + 1 }) : wpAny (model prog w) A (setItem (.ref a) (.str k t) v) Q E s := by
 obtain ⟨kvs, i, r⟩ := hd
 have x : s.heap.DictOf (strKind prog w) a kvs := Heap.dictOf_iff.mpr ⟨o, e, i⟩
 refine wpAny_setItem_pairs (hsz := by erw [r.length, sizeLine_eq]; lia) (strKind_is prog w k t) x fun h' hd' hs' => ?_
 obtain ⟨o', e', i'⟩ := Heap.dictOf_iff.mp hd'
 exact h h' o' e' ⟨_, i', r.stored hr⟩ hs'
end
end
set_option tactic.hygienic false
section
variable {prog : Program} {w : World} {A : Around} {wr : List Addr} {s₀ s s' : Shared} {G₀ G G' : Mem} {env : Env} {ρ ρ' ρ₁ : List (Str × D)} {os os' rest : List (Addr × Kd)}
theorem Fm.fix {a : Addr} {k : Kd} (f : Fm wr s₀ G₀ env ρ ((a, k) :: os) s G) (h : a ∉ wr) : ∃ G', Fm wr s₀ G₀ env ρ os s G' ∧ Le G G' ∧ ∃ o, G' a = some o ∧ k.ok G' o := by
 obtain ⟨g, na, o, e, hk⟩ := f.S _ (.head _)
 have f' := f.drop h
 have le : Le G (put G a o) := ev g
 have np : ∀ b, b ≠ a → put G a o b = G b := fun b hb => by unfold put; erw [if_neg hb]
 have na2 : ∀ p ∈ os, p.1 ≠ a := fun p hp q => (List.nodup_cons.mp f.N).1 (by
  have := List.mem_map_of_mem (f := fun (x : Addr × Kd) => x.1) hp
  rw [q] at this; exact this)
 refine ⟨put G a o, ⟨⟨f.K.k, fun b o q => le b o (f.K.le b o q), ?_, ?_⟩, ⟨f.E.fn, f.E.gl, f.E.bu, ?_, fun p hp => ?_⟩, ⟨f.O.ns, ?_, f.O.gl, f.O.bu, f.O.fn, fun x c hx => ⟨(f.O.cel x c hx).1, ?_⟩, f.O.ap⟩, fun p hp => ?_, f'.N, f'.F, f'.W⟩, le, o, a9 _ _ _, hk.mono le⟩
 · intro b o q
   unfold put at q
   by_cases z : b = a
   · rw [if_pos z] at q; cases q; erw [z]; exact e
   · rw [if_neg z] at q; exact f.K.sub b o q
 · intro b o q
   unfold put at q
   by_cases z : b = a
   · erw [z]
     rcases f.F a (List.mem_append_right _ (.head _)) with y | y
     · exact absurd y h
     · exact .inr y
   · rw [if_neg z] at q; exact f.K.new b o q
 · intro b o q
   unfold put at q
   by_cases z : b = a
   · rw [if_pos z] at q; cases q; erw [z]; exact e
   · rw [if_neg z] at q; exact f.K.sub b o q
 · obtain ⟨v, l, x⟩ := f.E.at' p hp
   exact ⟨v, l, x.mono le⟩
 · erw [np _ (fun q => na (by rw [← q]; exact .tail _ (.tail _ (.head _))))]; exact f.O.gn
 · erw [np _ (fun q => na (by rw [← q]; exact .tail _ (.tail _ (.tail _ (List.mem_map_of_mem (f := fun (x : Str × Addr) => x.2) hx)))))]; exact (f.O.cel x c hx).2
 · obtain ⟨g', n', o', e', k'⟩ := f.S p (.tail _ hp)
   exact ⟨by erw [np _ (na2 p hp)]; exact g', n', o', e', k'.mono le⟩
theorem Fm.fixK {a : Addr} {k : Kd} {Z : Prop} (f : Fm wr s₀ G₀ env ρ ((a, k) :: os) s G) (h : a ∉ wr) (c : ∀ G', Fm wr s₀ G₀ env ρ os s G' → Le G G' → ∀ o, G' a = some o → k.ok G' o → Z) : Z :=
 let ⟨G', f', le, o, e, q⟩ := f.fix h
 c G' f' le o e q
theorem Fm.fixO {a : Addr} {b : Obj} {Z : Prop} (f : Fm wr s₀ G₀ env ρ ((a, .o b) :: os) s G) (h : a ∉ wr) (c : ∀ G', Fm wr s₀ G₀ env ρ os s G' → Le G G' → G' a = some b → Z) : Z :=
 f.fixK h fun G' f' le o e q => c G' f' le (by cases q; exact e)
theorem Fm.new (f : Fm wr s₀ G₀ env ρ os s G) {h' : Heap} {tk : Nat} {a : Addr} {o : Obj} {k : Kd} (hk : ∀ b o, s.heap.get? b = some o → h'.get? b = some o) (fr : s.heap.get? a = none) (e : h'.get? a = some o) (ok : k.ok G o) : Fm wr s₀ G₀ env ρ ((a, k) :: os) { s with heap := h', toks := tk } G ∧ a ∉ wr := by
 have K : Kp s G { s with heap := h', toks := tk } G := aW f.E.sub hk
 exact ⟨f.take' K fr (ai f.E.sub fr) e ok, f.notin fr⟩
theorem jl {pos : Pos} {Q E : Value → Shared → Prop} (f : Fm wr s₀ G₀ env ρ os s G) (hb : (s.heap.objs.size == sysModules) = false) (h : ∀ s' a, Fm wr s₀ G₀ env ρ ((a, Kd.d prog w []) :: os) s' G → a ∉ wr → (a == sysModules) = false → Q (.ref a) s') : wpAny (model prog w) A (eval (.Dict [] [] pos) env) Q E s := by
 erw [eval_Dict_empty]
 refine wpAny_bind (wpAny_standAt ?_)
 refine wpAny_newObj_type ?_ (by size_fits)
 obtain ⟨o, e, i⟩ := Heap.dictOf_iff.mp (Heap.DictOf.new (knd := PySem.strKind prog w) s.heap)
 obtain ⟨f₁, na⟩ := f.new (tk := s.toks) (k := Kd.d prog w []) (fun b o e => Heap.get?_push_of_some _ e) (aq s.heap) e ⟨[], i, rfl⟩
 exact h _ _ f₁ na hb
inductive nZ (M : Model) (A : Around) (env : Env) (ρ : List (Str × D)) (pos : Pos) : List (Sem Value × Sem Value) → List (Str × D) → Prop
 | nil : nZ M A env ρ pos [] []
 | cons {x : Str} {kk : Nat} {p : Pos} {ve : Expr} {d : D} {prs : List (Sem Value × Sem Value)} {ds : List (Str × D)} (h : Ev M A env ρ ve d) (r : nZ M A env ρ pos prs ds) :
  nZ M A env ρ pos ((eval (.Constant (.str x) kk p) env, do let v ← eval ve env; standAt pos; pure v) :: prs) ((x, d) :: ds)
theorem evpr {pos : Pos} {prs : List (Sem Value × Sem Value)} {ds : List (Str × D)} (h : nZ (model prog w) A env ρ pos prs ds) : ∀ {s : Shared} {G : Mem} {Q : List (Value × Value) → Shared → Prop} {E : Value → Shared → Prop}, En s.heap G env ρ →
 (∀ vs kvs s' G', Kp s G s' G' → Carries (PySem.strKind prog w) vs kvs → DR G' ds kvs → Q vs s') → wpAny (model prog w) A (evalPairs prs) Q E s := by
 induction h with
 | nil => intro s G Q E hE hQ; exact evalPairs_nil (hQ [] [] s G (Kp.rf hE.sub) trivial rfl)
 | @cons x kk p ve d prs ds h r ih =>
   intro s G Q E hE hQ
   refine evalPairs_cons (aT (prog := prog) (w := w) s G _ _ hE fun kv s₁ G₁ k₁ r₁ => ?_)
   obtain ⟨t, rfl⟩ := r₁
   refine wpAny_bind (h s₁ G₁ _ _ (hE.go k₁) fun vv s₂ G₂ k₂ r₂ => wpAny_bind (wpAny_standAt (wpAny_pure ?_)))
   refine ih ((hE.go k₁).go k₂) fun vs kvs s₃ G₃ k₃ hc hd => ?_
   exact hQ _ ((x, vv) :: kvs) s₃ G₃ ((k₁.tr k₂).tr k₃) ⟨strKind_is prog w x t, rfl, hc⟩ ⟨vv, kvs, rfl, r₂.mono k₃.le, hd⟩
theorem qv {keys : List (Option Expr)} {values : List Expr} {pos : Pos} {prs : List (Sem Value × Sem Value)} {ds : List (Str × D)} {Q E : Value → Shared → Prop} (f : Fm wr s₀ G₀ env ρ os s G) (hp : nZ (model prog w) A env ρ pos prs ds)
 (hshape : (evalEachOpt keys env).zip ((evalEach values env).map fun v => do let x ← v; standAt pos; pure x) = prs.map fun p => (some p.1, p.2)) (h0 : prs ≠ []) (hlen : prs.length ≤ 15) (hb : (s.heap.objs.size == sysModules) = false)
 (h : ∀ s' G' a, Fm wr s₀ G₀ env ρ ((a, Kd.d prog w (aD [] ds)) :: os) s' G' → Le G G' → a ∉ wr → (a == sysModules) = false → Q (.ref a) s') : wpAny (model prog w) A (eval (.Dict keys values pos) env) Q E s := by
 refine wpAny_Dict_pairs (knd := PySem.strKind prog w) hshape h0 hlen ?_
 obtain ⟨o₀, e₀, i₀⟩ := Heap.dictOf_iff.mp (Heap.DictOf.new (knd := PySem.strKind prog w) s.heap)
 obtain ⟨f₁, na⟩ := f.new (tk := s.toks) (k := Kd.d prog w []) (fun b o e => Heap.get?_push_of_some _ e) (aq s.heap) e₀ ⟨[], i₀, rfl⟩
 refine evpr hp f₁.E fun vs kvs s₂ G₂ k₂ hc hd => ?_
 have hn : s₂.heap.DictOf (PySem.strKind prog w) s.heap.objs.size [] := (Heap.DictOf.new (knd := PySem.strKind prog w) s.heap).keep k₂.hp
 refine ⟨kvs, hc, hn, fun h' hd' hs' => ?_⟩
 obtain ⟨o, e, i⟩ := Heap.dictOf_iff.mp hd'
 exact h _ G₂ _ ((f₁.go k₂).mut0 (k' := Kd.d prog w (aD [] ds)) hs' e ⟨_, i, DR.merged (ds := []) rfl hd⟩) k₂.le na hb
theorem oh {e₁ e₂ : Expr} {pos : Pos} {a b : Addr} {d₁ d₂ : D} {ds es : List (Str × D)} {Q E : Value → Shared → Prop} (f : Fm wr s₀ G₀ env ρ os s G) (h₁ : Ev (model prog w) A env ρ e₁ d₁) (h₂ : Ev (model prog w) A env ρ e₂ d₂)
 (hv₁ : ∀ G v, Rp G d₁ v → v = .ref a) (hv₂ : ∀ G v, Rp G d₂ v → v = .ref b)
 (ha : ∀ s G, Fm wr s₀ G₀ env ρ os s G → ∃ o, s.heap.get? a = some o ∧ DkO prog w G o ds) (hb : ∀ s G, Fm wr s₀ G₀ env ρ os s G → ∃ o, s.heap.get? b = some o ∧ DkO prog w G o es) (na : (a == sysModules) = false) (nb : (b == sysModules) = false) (hsz : ds.length + es.length ≤ 1000) (hbs : (s.heap.objs.size == sysModules) = false)
 (h : ∀ s' G' c, Fm wr s₀ G₀ env ρ ((c, Kd.d prog w (aD (aD [] ds) es)) :: os) s' G' → Le G G' → c ∉ wr → (c == sysModules) = false → Q (.ref c) s') : wpAny (model prog w) A (eval (.Dict [none, none] [e₁, e₂] pos) env) Q E s := by
 erw [arm_eval_Dict]
 refine wpAny_bind (wpAny_standAt ?_)
 have hz : (evalEachOpt [none, none] env).zip ((evalEach [e₁, e₂] env).map fun v => do let x ← v; standAt pos; pure x) = [(none, do let x ← eval e₁ env; standAt pos; pure x), (none, do let x ← eval e₂ env; standAt pos; pure x)] := rfl
 erw [hz]
 unfold dictDisplay
 dsimp only
 erw [List.forIn_cons]
 refine wpAny_bind (wpAny_bind (wpAny_bind ?_))
 simp only [List.isEmpty_nil, if_true]
 refine wpAny_pure ?_
 refine wpAny_bind (wpAny_alloc ?_)
 have hnew := Heap.DictOf.new (knd := PySem.strKind prog w) s.heap
 obtain ⟨o₀, e₀, i₀⟩ := Heap.dictOf_iff.mp hnew
 obtain ⟨f₁, nw⟩ := f.new (tk := s.toks) (k := Kd.d prog w []) (fun b o e => Heap.get?_push_of_some _ e) (aq s.heap) e₀ ⟨[], i₀, rfl⟩
 have step : ∀ {x : Addr} {ds es : List (Str × D)} {s₁ : Shared} {G₁ : Mem} {k : Value → Sem Unit} {k2 : Value → Sem Unit} {k3 : Value → Sem Unit} {Q : Unit → Shared → Prop}, Fm wr s₀ G₀ env ρ ((s.heap.objs.size, Kd.d prog w ds) :: os) s₁ G₁ → (x == sysModules) = false → ds.length + es.length ≤ 1000 → s.heap.objs.size ≠ x →
  (∃ o, s₁.heap.get? x = some o ∧ DkO prog w G₁ o es) →
  (∀ s₂, Fm wr s₀ G₀ env ρ ((s.heap.objs.size, Kd.d prog w (aD ds es)) :: os) s₂ G₁ → Q () s₂) →
  wpAny (model prog w) A (((((holding [.ref s.heap.objs.size, .ref x] (mergeMapping s.heap.objs.size (.ref x) false)).onRaise k).tryCatch k2)).onRaise k3) Q E s₁ := by
  intro x ds es s₁ G₁ k k2 k3 Q f nx hsz hne hx hq
  obtain ⟨o, e, kvs, i, r⟩ := hx
  obtain ⟨_, _, oc, ec, kc, ic, rc⟩ := f.S _ (.head _)
  refine wpAny_onRaise (wpAny_tryCatch (wpAny_onRaise (wpAny_holding (o0 nx hne (Heap.dictOf_iff.mpr ⟨oc, ec, ic⟩) (Heap.dictOf_iff.mpr ⟨o, e, i⟩) (by erw [rc.length, r.length, sizeLine_eq]; lia) fun h' hd' hs' => ?_))))
  obtain ⟨o', e', i'⟩ := Heap.dictOf_iff.mp hd'
  exact hq _ (f.mut0 (t := s₁.toks) (k' := Kd.d prog w (aD ds es)) hs' e' ⟨_, i', rc.merged r⟩)
 have ne : ∀ {x : Addr} {ds : List (Str × D)} {s₁ : Shared} {G₁ : Mem}, (∃ o, s.heap.get? x = some o ∧ DkO prog w G₁ o ds) → s.heap.objs.size ≠ x := by
  intro x ds s₁ G₁ hx q
  obtain ⟨o, e, _⟩ := hx
  rw [← q, aq] at e
  cases e
 refine wpAny_bind (wpAny_holding (wpAny_bind (h₁ _ G _ _ f₁.E fun v s₁ G₁ k₁ r => wpAny_bind (wpAny_standAt (wpAny_pure ?_)))))
 obtain rfl : _ := hv₁ _ _ r
 have f₂ := f₁.go k₁
 refine wpAny_bind (step (es := ds) f₂ na (by simp; lia) (ne (s₁ := s) (ha s G f)) (ha s₁ G₁ (f₂.drop nw)) fun s₂ f₃ => ?_)
 refine wpAny_pure ?_
 dsimp only
 erw [List.forIn_cons]
 refine wpAny_bind (wpAny_bind ?_)
 simp only [List.isEmpty_nil, if_true]
 refine wpAny_pure ?_
 refine wpAny_bind (wpAny_pure ?_)
 refine wpAny_bind (wpAny_holding (wpAny_bind (h₂ _ G₁ _ _ f₃.E fun v s₃ G₃ k₃ r => wpAny_bind (wpAny_standAt (wpAny_pure ?_)))))
 obtain rfl : _ := hv₂ _ _ r
 have f₄ := f₃.go k₃
 have hml : (aD [] ds).length ≤ ds.length := by
  have : ∀ (more acc : List (Str × D)), (aD acc more).length ≤ acc.length + more.length := by
   intro more
   induction more with
   | nil => intro acc; simp [aD]
   | cons p more ih =>
     intro acc
     have := ih (bH acc p.1 p.2)
     have h2 : (bH acc p.1 p.2).length ≤ acc.length + 1 := by
      unfold bH
      split <;> simp
     show (aD (bH acc p.1 p.2) more).length ≤ _
     erw [List.length_cons]
     lia
  simpa using this ds []
 refine wpAny_bind (step (es := es) f₄ nb (by lia) (ne (s₁ := s) (hb s G f)) (hb s₃ G₃ (f₄.drop nw)) fun s₄ f₅ => ?_)
 refine wpAny_pure ?_
 dsimp only
 erw [List.forIn_nil]
 refine wpAny_pure ?_
 dsimp only
 refine wpAny_bind (wpAny_pure ?_)
 exact wpAny_pure (h s₄ G₃ _ f₅ (k₁.le.tr k₃.le) nw hbs)
end
set_option tactic.hygienic false
noncomputable def NsObj (o : Obj) (m : Str → Option Value) : Prop := ∃ es ep, o.data = .dict es ep ∧ StrKeys es ∧ UniqKeys es ∧ ∀ n, nsFind es n = m n
noncomputable def Kd.ns (m : Str → Option Value) : Kd := .p (fun ux o => NsObj o m) fun ux ux ux ux h => h
theorem NsObj.ns1 {h : Heap} {a : Addr} {o : Obj} {m : Str → Option Value} (x : NsObj o m) (e : h.get? a = some o) : h.Ns1 a m := let ⟨es, ep, d, r⟩ := x; ⟨o, es, ep, e, d, r⟩
theorem NsObj.of {h : Heap} {a : Addr} {m : Str → Option Value} (x : h.Ns1 a m) : ∃ o, h.get? a = some o ∧ NsObj o m := let ⟨o, es, ep, e, d, r⟩ := x; ⟨o, e, es, ep, d, r⟩
noncomputable abbrev bR (d : Option Addr) (fd : FuncData) (sl : Array (Option Value)) : Obj := ⟨.type "function", d, .func fd, sl⟩
noncomputable def Fn (G : Mem) (a : Addr) (m : Str → Option Value) : Prop := ∃ fd sl dd o, G a = some (bR (some dd) fd sl) ∧ G dd = some o ∧ NsObj o m
theorem Fn.mono {G G' : Mem} {a : Addr} {m : Str → Option Value} (le : Le G G') (h : Fn G a m) : Fn G' a m := let ⟨fd, sl, dd, o, x, y, z⟩ := h; ⟨fd, sl, dd, o, le _ _ x, le _ _ y, z⟩
structure Node (G : Mem) (f : Addr) (tag : Str) (at_ L : Addr) : Prop where
 ex : ∃ m t ma, Fn G f m ∧ m ("tag":Str) = some (.str tag t) ∧ m ("attrib":Str) = some (.ref at_) ∧ m ("inner":Str) = some (.ref L) ∧ m ("append":Str) = some (.ref ma) ∧ G ma = some (dn L) ∧ m ("makeelement":Str) = some (.ref 87)
theorem Node.mono {G G' : Mem} {f at_ L : Addr} {tag : Str} (le : Le G G') (h : Node G f tag at_ L) : Node G' f tag at_ L := let ⟨m, t, ma, x, a, b, c, d, e, y⟩ := h.ex; ⟨m, t, ma, x.mono le, a, b, c, d, le _ _ e, y⟩
theorem Fn.exK {G : Mem} {a : Addr} {m : Str → Option Value} {Z : Prop} (h : Fn G a m) (k : ∀ fd sl dd o, G a = some (bR (some dd) fd sl) → G dd = some o → NsObj o m → Z) : Z := let ⟨fd, sl, dd, o, x, y, z⟩ := h; k fd sl dd o x y z
theorem Node.exK {G : Mem} {f at_ L : Addr} {tag : Str} {Z : Prop} (h : Node G f tag at_ L) (k : ∀ m t ma, Fn G f m → m ("tag":Str) = some (.str tag t) → m ("attrib":Str) = some (.ref at_) → m ("inner":Str) = some (.ref L) → m ("append":Str) = some (.ref ma) → G ma = some (dn L) → m ("makeelement":Str) = some (.ref 87) → Z) : Z := let ⟨m, t, ma, x, a, b, c, d, e, y⟩ := h.ex; k m t ma x a b c d e y
section
variable {prog : Program} {w : World} {A : Around} {wr : List Addr} {s₀ s s' : Shared} {G₀ G G' : Mem} {env : Env} {ρ ρ' ρ₁ : List (Str × D)} {os os' rest : List (Addr × Kd)}
theorem fj {T : String} {a : Addr} {name : Str} {v : Value} {id : String} {Q : Unit → Shared → Prop} {E : Value → Shared → Prop} (hT : s.TypeIs (.ref a) T) (sl : Slot T "__setattr__" id)
 (h : wpAny (model prog w) A (call (.builtin id) [.ref a, .str name s.toks, v]) (fun ux => Q ()) E { s with toks := s.toks + 1 }) : wpAny (model prog w) A (setAttr (.ref a) name v) Q E s := by
 unfold setAttr
 refine wpAny_bind (wpAny_mkText (wpAny_bind ?_))
 refine wpAny_callSpecial?_slot (name := Str.ofString "__setattr__") (s := { s with toks := s.toks + 1 }) hT sl (wpAny_mono h (fun r s' hq => ?_) fun ux ux e => e)
 exact wpAny_pure hq
theorem jF {a : Addr} {fd : FuncData} {sl : Array (Option Value)} {name : Str} {v : Value} {Q : Unit → Shared → Prop} {E : Value → Shared → Prop} (f : Fm wr s₀ G₀ env ρ ((a, .o (bR none fd sl)) :: os) s G) (hmiss : gx name = true)
 (h : ∀ s' d, Fm wr s₀ G₀ env ρ ((a, .o (bR (some d) fd sl)) :: (d, Kd.ns fun y => if y = name then some v else none) :: os) s' G → d ∉ wr → Q () s') : wpAny (model prog w) A (setAttr (.ref a) name v) Q E s := by
 obtain ⟨g, na, o, e, rfl⟩ := f.S _ (.head _)
 refine fj ⟨_, e, rfl⟩ g4 ?_
 refine call_meets g4 ⟨_, e, rfl⟩ PySem.F.entry_object_sa (PySem.F.args_object_setattr_3 _ _ _) (i6 a fd sl name v _ (cR hmiss)) ⟨e, fun h' tk e' hn' hk' => ?_⟩
 obtain ⟨od, ed, nd⟩ := NsObj.of hn'
 have hf : s.heap.get? s.heap.objs.size = none := aq s.heap
 refine h _ s.heap.objs.size (f.called (os := [(a, .o (bR none fd sl))]) (os' := [(a, .o (bR (some s.heap.objs.size) fd sl)), (s.heap.objs.size, Kd.ns fun y => if y = name then some v else none)]) (rest := os) ⟨⟨⟨h', tk, rfl, fun b o hb e => hk' b o (fun q => hb (by erw [q]; exact .head _)) e⟩, fun ux ux e => e, fun b o eb => hk' b o (fun q => by rw [q, g] at eb; cases eb) (f.E.sub b o eb), fun ux ux e => .inl e⟩, ⟨?_, ?_⟩, ?_⟩ fun b hb ux => ?_) (f.notin hf)
 · intro p hp
   rcases List.mem_cons.mp hp with rfl | hp
   · exact ⟨g, _, e', rfl⟩
   · rw [List.mem_singleton] at hp
     subst hp
     exact ⟨ai f.E.sub hf, od, ed, nd⟩
 · refine List.nodup_cons.mpr ⟨fun q => ?_, List.nodup_cons.mpr ⟨List.not_mem_nil, List.nodup_nil⟩⟩
   rw [List.map_cons, List.map_nil, List.mem_singleton] at q
   have q : a = s.heap.objs.size := q
   rw [q, hf] at e; cases e
 · intro p hp
   rcases List.mem_cons.mp hp with rfl | hp
   · exact .inl (.head _)
   · rw [List.mem_singleton] at hp
     subst hp
     exact .inr hf
 · rw [List.map_cons, List.map_nil, List.mem_singleton] at hb
   erw [hb]
   exact .head _
theorem jJ {a d : Addr} {fd : FuncData} {sl : Array (Option Value)} {m : Str → Option Value} {ns : List Str} {name : Str} {v : Value} {Q : Unit → Shared → Prop} {E : Value → Shared → Prop} (f : Fm wr s₀ G₀ env ρ ((a, .o (bR (some d) fd sl)) :: (d, Kd.ns m) :: os) s G) (hmiss : gx name = true) (hw : Within m ns) (hsz : ns.length < 1000)
 (h : ∀ s', Fm wr s₀ G₀ env ρ ((a, .o (bR (some d) fd sl)) :: (d, Kd.ns fun y => if y = name then some v else m y) :: os) s' G → Q () s') : wpAny (model prog w) A (setAttr (.ref a) name v) Q E s := by
 obtain ⟨g, na, o, e, rfl⟩ := f.S _ (.head _)
 obtain ⟨gd, nd, od, ed, xd⟩ := f.S _ (.tail _ (.head _))
 refine fj ⟨_, e, rfl⟩ g4 ?_
 refine call_meets g4 ⟨_, e, rfl⟩ PySem.F.entry_object_sa (PySem.F.args_object_setattr_3 _ _ _) (jV a d fd sl m ns name v _ (cR hmiss) hw hsz) ⟨e, NsObj.ns1 xd ed, fun h' tk hn' hs' => ?_⟩
 obtain ⟨od', ed', nd'⟩ := NsObj.of hn'
 exact h _ (f.mut (os₁ := [(a, .o (bR (some d) fd sl))]) (k' := Kd.ns fun y => if y = name then some v else m y) hs' ed' nd')
theorem rM {o : Expr} {attr : Str} {pos : Pos} {a : Addr} {v : Value} {dF : D} (ho : Ev (model prog w) A env ρ o dF) (hd : ∀ G v, Rp G dF v → v = .ref a) (hf : ∀ s G, Fm wr s₀ G₀ env ρ os s G → ∃ fd sl dd m, s.heap.get? a = some (bR (some dd) fd sl) ∧ s.heap.Ns dd m ∧ m attr = some v) (hmiss : gx attr = true) (hv : ∀ id, v ≠ .builtin id)
 (he : eval (.Attribute o attr pos) env = (do
  let ov ← eval o env
  standAt pos.atName
  let r ← holding [ov] (getAttr ov attr true)
  letTemporaryGo o ov r
  pure r) := by rfl) (hl : ∀ x y, letTemporaryGo o x y = pure () := by intro _ _; rfl) : EvF (model prog w) A wr s₀ G₀ env ρ os (.Attribute o attr pos) (.v v) os := by
 intro s G Q E f hQ
 erw [he]
 refine wpAny_bind (ho s G _ _ f.E fun ov s₁ G₁ k₁ r => wpAny_bind (wpAny_standAt (wpAny_bind (wpAny_holding ?_))))
 obtain rfl : _ := hd _ _ r
 have f₁ := f.go k₁
 obtain ⟨fd, sl, dd, m, e, n, hm⟩ := hf s₁ G₁ f₁
 refine mm e n (cR hmiss) hm hv fun tk => ?_
 erw [hl]
 refine wpAny_bind (wpAny_pure (wpAny_pure ?_))
 have K : Kp s₁ G₁ { s₁ with toks := tk } G₁ := Kp.tok f₁.E.sub tk
 exact hQ v _ G₁ (f₁.go K) k₁.le rfl
theorem own_fn {a d : Addr} {fd : FuncData} {sl : Array (Option Value)} {m : Str → Option Value} (f : Fm wr s₀ G₀ env ρ ((a, .o (bR (some d) fd sl)) :: (d, Kd.ns m) :: os) s G) : ∃ fd sl dd m', s.heap.get? a = some (bR (some dd) fd sl) ∧ s.heap.Ns dd m' ∧ ∀ x, m' x = m x := by
 obtain ⟨g, na, o, e, rfl⟩ := f.S _ (.head _)
 obtain ⟨gd, nd, od, ed, xd⟩ := f.S _ (.tail _ (.head _))
 exact ⟨_, _, _, m, e, (NsObj.ns1 xd ed).ns, fun ux => rfl⟩
end
noncomputable def ay (l c : Nat) : Kd := .p (fun ux o => o = tabObj #[] ∨ ∃ c', o = tabObj #[rawInt l, rawInt c, .ref c']) fun ux ux ux ux h => h
section
variable {prog : Program} {w : World} {A : Around} {wr : List Addr} {s₀ s s' : Shared} {G₀ G G' : Mem} {env : Env} {ρ ρ' ρ₁ : List (Str × D)} {os os' rest : List (Addr × Kd)} {p : Program} {loose : List Str} {mean : ExcName → Option Value} {mg mb : Str → Option Value} {g : Heap}
theorem jA {P : Addr} {ps : Array Value} {h : Heap} (T : Top p loose mean mg mb g) (k : ∀ b o, g.get? b = some o → h.get? b = some o) (hP : h.get? P = some (tabObj ps)) : mainGlobals ≠ P ∧ h.BuiltinsAt mg P := by
 have hgs := T.g.keeps k
 obtain ⟨bm, ob, b1, b2, b3, b4, b5, b6⟩ := T.bmain
 have hgP : mainGlobals ≠ P := fun q => by
  obtain ⟨o, es, ep, e, hd, _⟩ := hgs
  rw [q, hP] at e; cases e; cases hd
 have hbP : bm ≠ P := fun q => by
  have e := k _ _ b3
  rw [q, hP] at e; cases e; cases b4
 have hbG : bm ≠ mainGlobals := fun q => by
  obtain ⟨o, es, ep, e, hd, _⟩ := T.g
  rw [q, e] at b3; cases b3; rw [hd] at b6; cases b6
 exact ⟨hgP, bm, ob, b1, b2, hbG, hbP, k _ _ b3, b4, b5, b6⟩
theorem oY (l c c' : Nat) (p : Pos) (hl : p.line = l) (hc : p.col = c) : codeAmong p (#[rawInt l, rawInt c, Value.ref c'] : Array Value).toList = some (.ref c') := by
 subst hl hc
 unfold codeAmong
 simp [rawInt]
theorem lam_tab {c P : Addr} {params : Arguments} {body : Expr} {scope : Scope} {clos : List (Str × Addr)} {pos : Pos} {Q E : Value → Shared → Prop} (T : Top p loose mean mg mb g) (C : CodeHd g c P) (hle : Le g.get? G) (f : Fm wr s₀ G₀ env ρ ((P, ay pos.line pos.col) :: os) s G)
 (hcl : closureFor scope env = pure clos) (hge0 : env.globals = mainGlobals) (hcode : env.code = .ref c) (hdef : defaultsOf params env = ([], []))
 (h : ∀ s' a fd, Fm wr s₀ G₀ env ρ ((a, .o (bR none fd #[])) :: (P, ay pos.line pos.col) :: os) s' G → a ∉ wr → Q (.ref a) s') : wpAny (model prog w) A (eval (.Lambda params body scope pos) env) Q E s := by
 obtain ⟨gP, na, o, e, ho⟩ := f.S _ (.head _)
 have up : ∀ b o, g.get? b = some o → s.heap.get? b = some o := fun b o e => f.E.sub _ _ (hle _ _ e)
 have fin : ∀ (h' : Heap) (tk : Nat) (fd : FuncData) (ps : Array Value), (∀ b o, b ≠ P → s.heap.get? b = some o → h'.get? b = some o) → s.heap.objs.size ≤ h'.objs.size → h'.get? P = some (tabObj ps) → (ay pos.line pos.col).ok G (tabObj ps) → Q (.ref h'.objs.size) { s with heap := h'.push (bR none fd #[]), toks := tk } := by
  intro h' tk fd ps hk hsz eP okP
  have fr : s.heap.get? h'.objs.size = none := Heap.get?_none_of_le hsz
  have hk' : ∀ b o, b ≠ P → s.heap.get? b = some o → (h'.push (bR none fd #[])).get? b = some o := fun b o hb e => Heap.get?_push_of_some _ (hk b o hb e)
  refine h _ _ fd (f.called (os := [(P, ay pos.line pos.col)]) (os' := [(h'.objs.size, .o (bR none fd #[])), (P, ay pos.line pos.col)]) (rest := os) ⟨⟨⟨_, tk, rfl, fun b o hb e => hk' b o (fun q => hb (by erw [q]; exact .head _)) e⟩, fun ux ux e => e, fun b o eb => hk' b o (fun q => by rw [q, gP] at eb; cases eb) (f.E.sub b o eb), fun ux ux e => .inl e⟩, ⟨?_, ?_⟩, ?_⟩ fun b hb ux => ?_) (f.notin fr)
  · intro p hp
    rcases List.mem_cons.mp hp with rfl | hp
    · exact ⟨ai f.E.sub fr, _, Heap.get?_push_size _ rfl, rfl⟩
    · rw [List.mem_singleton] at hp
      subst hp
      exact ⟨gP, _, Heap.get?_push_of_some _ eP, okP⟩
  · refine List.nodup_cons.mpr ⟨fun q => ?_, List.nodup_cons.mpr ⟨List.not_mem_nil, List.nodup_nil⟩⟩
    rw [List.map_cons, List.map_nil, List.mem_singleton] at q
    have q : h'.objs.size = P := q
    rw [q, e] at fr; cases fr
  · intro p hp
    rcases List.mem_cons.mp hp with rfl | hp
    · exact .inr fr
    · rw [List.mem_singleton] at hp
      subst hp
      exact .inl (.head _)
  · rw [List.map_cons, List.map_nil, List.mem_singleton] at hb
    erw [hb]
    exact .tail _ (.head _)
 refine kla_eval hdef ?_
 rcases ho with rfl | ⟨c', rfl⟩
 · obtain ⟨hgP, hb⟩ := jA T up e
   refine kla_makeFunction (ps := #[]) (mg := mg) (c := c) (P := P) hcl hge0 (T.g.keeps up) hcode (C.keeps up) e trivial rfl hgP hb fun c' ctv h' tk hx hge hlt hrec htb => ?_
   exact fin h' tk _ _ (fun b o hb e => hx b o hb e) (by lia) htb (.inr ⟨c', rfl⟩)
 · obtain ⟨hgP, hb⟩ := jA T up e
   refine kla_makeFunctionHit (ps := #[rawInt pos.line, rawInt pos.col, .ref c']) (mg := mg) (c := c) (P := P) hcl hge0 (T.g.keeps up) hcode (C.keeps up) e ?_ (oY _ _ _ _ rfl rfl) hb fun ctv h' tk hk hsz => ?_
   · exact trivial
   · exact fin h' tk _ _ (fun b o ux e => hk b o e) hsz (hk _ _ e) (.inr ⟨c', rfl⟩)
end
section
variable {prog : Program} {w : World} {A : Around} {wr : List Addr} {s₀ s s' : Shared} {G₀ G G' : Mem} {env : Env} {ρ ρ' ρ₁ : List (Str × D)} {os os' rest : List (Addr × Kd)}
theorem az {x : Str} {pos : Pos} {d : D} {Q E : Value → Shared → Prop} (f : Fm wr s₀ G₀ env ρ os s G) (hm : (x, d) ∈ ρ) (h : ∀ v s' G', Fm wr s₀ G₀ env ρ os s' G' → Le G G' → Rp G' d v → Q v s')
 (hd : (x == ("__debug__" : Str)) = false := by decide) (hk : (env.kindOf x).isSome = true := by rfl) : wpAny (model prog w) A (eval (.Name x pos) env) Q E s :=
 aO (aa hm hd hk) s G Q E f h
theorem dD {e : Expr} {d : D} {Q E : Value → Shared → Prop} (f : Fm wr s₀ G₀ env ρ os s G) (hv : Ev (model prog w) A env ρ e d) (h : ∀ v s' G', Fm wr s₀ G₀ env ρ os s' G' → Le G G' → Rp G' d v → Q v s') : wpAny (model prog w) A (eval e env) Q E s :=
 aO hv s G Q E f h
end
set_option tactic.hygienic false
theorem perm_2 {α : Type} (a b : α) (l : List α) : (a :: b :: l).Perm (b :: a :: l) := List.Perm.swap b a l
theorem gB {α : Type} (a b c : α) (l : List α) : (a :: b :: c :: l).Perm (b :: c :: a :: l) := (List.Perm.swap b a (c :: l)).trans ((List.Perm.swap c a l).cons b)
theorem nG {α : Type} (a b c : α) (l : List α) : (a :: b :: c :: l).Perm (c :: a :: b :: l) := (gB c a b l).symm
set_option maxRecDepth 100000 in
set_option maxHeartbeats 4000000 in
theorem il {w : World} {A : Around} {g : Heap} {p : Program} {loose : List Str} {mean : ExcName → Option Value} {mg mb : Str → Option Value} (X : (hd.heap_39 w.params).In g) (T : Top p loose mean mg mb g) (C : CodeHd g 86 82) (hA : A.handled = none) (hroom : A.depth < recursionLimit)
 {s : Shared} {G : Mem} {Q E : Value → Shared → Prop} {vs : List Value} {tag : Str} {at_ : Addr} (hin : In G s.heap) (hle : Le g.get? G) (hvs : RpL G [.s tag, .v (.ref at_)] vs) (hh : Held G s.heap [(82, ay 86 10)])
 (hQ : ∀ s' G' f L, Eff [(82, ay 86 10)] [(L, .l []), (82, ay 86 10)] s G s' G' → Node G' f tag at_ L → s.heap.get? f = none → Q (.ref f) s') : wpAny (model Challenge.rw_wb0032_01.row.prog w) A (call (.ref 87) vs) Q E s := by
 refine k_sv (Z := fun vs => wpAny _ _ (call _ vs _) _ _ _) hvs fun t₁ => ?_
 revert X
 k_fill
 intro X
 k_dflt (refine' bo (os := [(82, ay 86 10)]) (ρ := [(("tag":Str), .s tag), ("attrib", .v (.ref at_)), ("_law_element", .g g.get? (.ref 87))]) X T hroom hin hle ?ho ?hcd ?hbody ?hbind ?hclo ?hkind ?hnd ?gl ?bu ?hos ?hod ?hρ ?hrun ?hco ?hgen ?hk; ((case ho | hcd => k_is); (case hnd => decide +kernel); (case hbody | hclo | gl | bu | hco | hgen | hk => exact rfl)); (case hbind => exact BindsTo.of_eq rfl); (case hkind => exact rfl); (case hos => exact hh.1); (case hod => exact hh.2))
 case hρ =>
  intro h L hn hc hg hb
  repeat' first | exact List.forall_mem_nil _ | with_reducible refine aM ?_ ?_
  · exact al hn rfl rfl rfl ⟨_, rfl⟩
  · exact al hn rfl rfl rfl rfl
  · exact bi hg rfl rfl (mg_of X T.g (by k_is)) hle
 case hrun =>
  intro s₁ L f₁
  refine cp fun E' => ?_
  refine aP (wr := [82]) (s₀ := s) (G₀ := G) ar (lam_tab T C hle f₁ rfl rfl rfl rfl fun s₂ a fd f₂ na => ?_)
  refine cL (d := .v (.ref a)) (ρ' := [(("one":Str), .v (.ref a)), ("tag", .s tag), ("attrib", .v (.ref at_)), ("_law_element", .g g.get? (.ref 87))]) f₂ rfl af fun s₃ f₃ => ?_
  have fra : s.heap.get? a = none := by
   rcases f₃.F a (List.mem_append_right _ (.head _)) with q | q
   · exact absurd q na
   · exact q
  refine wpAny_execs_cons (plainObj_wpAny_Assign_Attribute (az f₃ (d := .s tag) m1 fun v s₄ G₄ f₄ le₄ r₄ => ?_) rfl)
  obtain ⟨t₄, rfl⟩ := r₄
  refine az f₄ (d := .v (.ref a)) m0 fun v s₅ G₅ f₅ le₅ r₅ => ?_
  obtain rfl : v = .ref a := r₅
  refine jF f₅ (by decide +kernel) fun s₆ d f₆ nd => ?_
  refine wpAny_execs_cons (plainObj_wpAny_Assign_Attribute (az f₆ (d := .v (.ref at_)) m2 fun v s₇ G₇ f₇ le₇ r₇ => ?_) rfl)
  obtain rfl : v = .ref at_ := r₇
  refine az f₇ (d := .v (.ref a)) m0 fun v s₈ G₈ f₈ le₈ r₈ => ?_
  obtain rfl : v = .ref a := r₈
  have W1 := Within.cons ("tag":Str) (Value.str tag t₄) Within.nil
  refine jJ f₈ (by decide +kernel) W1 (by decide) fun s₉ f₉ => ?_
  have W2 := Within.cons ("attrib":Str) (Value.ref at_) W1
  refine wpAny_execs_cons (plainObj_wpAny_Assign_Attribute (cQ f₉ ae (by decide) fun sA GA Li fA nL => ?_) rfl)
  refine az fA (d := .v (.ref a)) m0 fun v sB GB fB leB rB => ?_
  obtain rfl : v = .ref a := rB
  refine jJ (fB.perm (gB _ _ _ _)) (by decide +kernel) W2 (by decide) fun sC fC => ?_
  have W3 := Within.cons ("inner":Str) (Value.ref Li) W2
  refine wpAny_execs_cons (plainObj_wpAny_Assign_Attribute (Attribute_any_ (rM (pos := _) (v := .ref Li) (dF := .v (.ref a)) (aa m0) (fun ux ux h => h) ?hf (by decide +kernel) (by intro id; simp) rfl (by intro _ _; rfl) _ _ _ _ fC fun v sD GD fD leD rD => ?_) rfl) rfl)
  case hf =>
   intro s₅ G₅ f₅
   obtain ⟨fd, sl, dd, m, e, n, hm⟩ := own_fn f₅
   exact ⟨fd, sl, dd, m, e, n, by erw [hm]; rfl⟩
  obtain rfl : v = .ref Li := rD
  obtain ⟨gL, nLf, oL, eL, vsL, nn, rfl, rL⟩ := fD.S _ (.tail _ (.tail _ (.head _)))
  refine gV eL fun tk => ?_
  obtain ⟨fE, nM⟩ := fD.new (tk := tk) (k := .o (dn Li)) (fun b o e => Heap.get?_push_of_some _ e) (aq sD.heap) (Heap.get?_push_size _ rfl) rfl
  generalize hma : sD.heap.objs.size = ma at fE nM ⊢
  refine az fE (d := .v (.ref a)) m0 fun v sF GF fF leF rF => ?_
  obtain rfl : v = .ref a := rF
  refine jJ (fF.perm (gB _ _ _ _)) (by decide +kernel) W3 (by decide) fun sH fH => ?_
  have W4 := Within.cons ("append":Str) (Value.ref ma) W3
  refine wpAny_execs_cons (plainObj_wpAny_Assign_Attribute (az fH (d := .g g.get? (.ref 87)) m3 fun v sI GI fI leI rI => ?_) rfl)
  obtain ⟨rfl, _⟩ := rI
  refine az fI (d := .v (.ref a)) m0 fun v sJ GJ fJ leJ rJ => ?_
  obtain rfl : v = .ref a := rJ
  refine jJ fJ (by decide +kernel) W4 (by decide) fun sK fK => ?_
  refine bJ (d := .v (.ref a)) fK (aa m0) fun v sL GL fL rL => ?_
  obtain rfl : v = .ref a := rL
  obtain ⟨G1, g1, le1, o1, e1, rfl⟩ := fL.fix na
  obtain ⟨G2, g2, le2, o2, e2, k2⟩ := g1.fix nd
  obtain ⟨G3, g3, le3, o3, e3, rfl⟩ := g2.fix nM
  refine hQ sL G3 a Li (g3.eff (os := [(82, ay 86 10)]) (List.Sublist.refl _)) ⟨_, t₄, ma, ⟨fd, #[], d, o2, le3 _ _ (le2 _ _ e1), le3 _ _ e2, k2⟩, rfl, rfl, rfl, rfl, e3, rfl⟩ fra
set_option tactic.hygienic false
section
variable {prog : Program} {w : World} {A : Around} {wr wr' : List Addr} {s₀ s₁ s s' : Shared} {G₀ G G' : Mem} {env : Env} {ρ ρ' : List (Str × D)} {os os' rest : List (Addr × Kd)}
theorem Fm.rebase (f : Fm wr' s₁ G env ρ os s G') (k : Kp s₀ G₀ s₁ G) (hw : ∀ b ∈ wr', b ∈ wr ∨ s₀.heap.get? b = none) (hs : ∀ b ∈ wr, b ∈ wr') : Fm wr s₀ G₀ env ρ os s G' := by
 have back : ∀ {b}, s₁.heap.get? b = none → s₀.heap.get? b = none := fun {b} q => by
  cases z : s₀.heap.get? b with
  | none => rfl
  | some o => rw [k.hp b o z] at q; cases q
 refine ⟨⟨?_, fun b o e => f.K.le b o (k.le b o e), f.K.sub, fun b o e => ?_⟩, f.E, f.O, f.S, f.N, fun b hb => ?_, fun b hb => f.W b (hs b hb)⟩
 · obtain ⟨h, t, e, kk⟩ := f.K.k
   obtain ⟨h', t', e', kk'⟩ := k.k
   subst e e'
   refine ⟨h, t, rfl, fun b o n z => kk b o (fun m => ?_) (kk' b o z)⟩
   rcases hw b m with q | q
   · exact n q
   · rw [q] at z; cases z
 · rcases f.K.new b o e with q | q
   · exact k.new b o q
   · exact .inr (back q)
 · rcases f.F b hb with q | q
   · exact hw b q
   · exact .inr (back q)
set_option tactic.hygienic true in
theorem q3 {α : Type} {K : Frag} {M : Model} {E : Value → Shared → Prop} {Q : α → Shared → Prop} {o : Obj} (X : K.In s.heap) :
 ∀ (t : Sem α) (g : Addr → Sem α), peekA K ⟨M.prog, M.w.params⟩ t = some (o, g) → wpAny M A (g s.heap.objs.size) Q E { s with heap := s.heap.push o } → wpAny M A t Q E s := by
 intro t
 induction t with
 | rule _ k ih => intro g e q Γ p hΓ; exact ih () g e q Γ p hΓ
 | point _ k ih => intro g e q Γ p hΓ; exact ih () g e q Γ p hΓ
 | ask k ih => intro g e q Γ p hΓ; exact ih _ g e q Γ p hΓ
 | load a _ k ih =>
   intro g e q Γ p hΓ
   simp only [peekA] at e
   split at e
   · rename_i ob ho; exact ⟨ob, X _ _ ho, ih ob g e q Γ p hΓ⟩
   · cases e
 | alloc ob k _ =>
   intro g e q
   have e : some (ob, k) = some (o, g) := e
   obtain ⟨e1, e2⟩ := Prod.mk.inj (Option.some.inj e)
   subst e1
   subst e2
   show wpAny M A (alloc ob >>= k) Q E s
   exact wpAny_bind (wpAny_alloc q)
 | _ => intro g e; cases e
theorem ns_put {d : Addr} {s : Shared} {es : List DictEntry} {n : Nat} {k : Str} {v : Value} {Q : Unit → Shared → Prop} {E : Value → Shared → Prop} (D : s.heap.get? d = some (dictOf es n))
 (hs : ∀ e ∈ es, e.key.isStr k = false) (hr : ∀ e ∈ es, e.refKey = false)
 (h : ∀ h', Heap.SameBut d s.heap h' → h'.get? d = some (dictOf (es ++ [⟨PyData.keyHash w.params k, .str k s.toks, v⟩]) (n + 1)) → Q () { s with heap := h', toks := s.toks + 1 }) :
 wpAny (model prog w) A (nsSet d k v) Q E s := by
 have e1 : es.any (·.key.isStr k) = false := by
  cases q : es.any (·.key.isStr k) with
  | false => rfl
  | true => obtain ⟨e, he, z⟩ := List.any_eq_true.mp q; rw [hs e he] at z; cases z
 have e2 : es.any (·.refKey) = false := by
  cases q : es.any (·.refKey) with
  | false => rfl
  | true => obtain ⟨e, he, z⟩ := List.any_eq_true.mp q; rw [hr e he] at z; cases z
 have e : Obj.putName k (PyData.keyHash w.params k) (.str k s.toks) v (dictOf es n) = dictOf (es ++ [⟨PyData.keyHash w.params k, .str k s.toks, v⟩]) (n + 1) := by
  erw [putName_dict, putL_new hs]
  show dictOf _ (if es.any (·.key.isStr k) then n else n + 1) = _
  erw [e1, if_neg Bool.false_ne_true]
 have c : aRefKeyMayBeTheName k es.toArray = false := by
  erw [aRefKeyMayBeTheName_at, ← Array.any_toList, ← Array.any_toList]
  show (!es.any (·.key.isStr k) && es.any (·.refKey)) = false
  erw [e2, Bool.and_false]
 unfold nsSet
 refine wpAny_bind (wpAny_bind (wpAny_askSetting (wpAny_pure (wpAny_bind (wpAny_mkText (wpAny_bind (wpAny_loadPart D ?_)))))))
 dsimp only
 erw [c]
 refine wpAny_updatePart D (h _ (Heap.SameBut.update ..) ?_)
 have := Heap.get?_update_self (Obj.putName k (PyData.keyHash w.params k) (.str k s.toks) v) D (by
  show Obj.isFreed (Obj.putName k (PyData.keyHash w.params k) (.str k s.toks) v (dictOf es n)) = false
  erw [e]; rfl)
 rw [e] at this
 exact this
theorem mW {d : Addr} {E : Value → Shared → Prop} : ∀ (ex : List (Str × Value)) (s : Shared) (es : List DictEntry) (n : Nat) {Q : PUnit → Shared → Prop}, s.heap.get? d = some (dictOf es n) →
 (∀ e ∈ es, ∀ x ∈ ex, e.key.isStr x.1 = false) → (∀ e ∈ es, e.refKey = false) → (ex.map (·.1)).Nodup →
 (∀ h', Heap.SameBut d s.heap h' → h'.get? d = some (dictOf (es ++ kwEs w.params s.toks ex) (n + ex.length)) → Q ⟨⟩ { s with heap := h', toks := s.toks + ex.length }) →
 wpAny (model prog w) A (forIn ex PUnit.unit fun x ux => (nsSet d x.1 x.2 >>= fun ux => pure (ForInStep.yield PUnit.unit))) Q E s
 | [], s, es, n, Q, D, _, _, _, h => by
   erw [List.forIn_nil]
   refine wpAny_pure (h s.heap (Heap.SameBut.refl _ _) ?_)
   show s.heap.get? d = some (dictOf (es ++ []) n)
   erw [List.append_nil]
   exact D
 | x :: r, s, es, n, Q, D, hs, hr, hn, h => by
   obtain ⟨hn1, hn2⟩ := List.nodup_cons.mp (show (x.1 :: r.map (·.1)).Nodup from hn)
   erw [List.forIn_cons]
   refine wpAny_bind (wpAny_bind (ns_put D (fun e he => hs e he x (.head _)) hr fun h' S' D' => wpAny_pure ?_))
   show wpAny (model prog w) A (forIn r PUnit.unit fun x ux => (nsSet d x.1 x.2 >>= fun ux => pure (ForInStep.yield PUnit.unit))) Q E { s with heap := h', toks := s.toks + 1 }
   refine mW r { s with heap := h', toks := s.toks + 1 } _ _ D' (fun e he y hy => ?_) (fun e he => ?_) hn2 fun h'' S'' D'' => ?_
   · rcases List.mem_append.mp he with he | he
     · exact hs e he y (.tail _ hy)
     · obtain rfl : _ := List.mem_singleton.mp he
       show (x.1 == y.1) = false
       exact beq_eq_false_iff_ne.mpr fun q => hn1 (by erw [q]; exact List.mem_map_of_mem hy)
   · rcases List.mem_append.mp he with he | he
     · exact hr e he
     · obtain rfl : _ := List.mem_singleton.mp he
       rfl
   · have t1 : s.toks + 1 + r.length = s.toks + (r.length + 1) := by lia
     have t2 : n + 1 + r.length = n + (r.length + 1) := by lia
     show Q ⟨⟩ { s with heap := h'', toks := s.toks + 1 + r.length }
     erw [t1]
     refine h h'' (S'.trans S'') ?_
     rw [t2, List.append_assoc] at D''
     exact D''
theorem ox {K : Frag} {fd : FuncData} {args : Args} {ex front : List (Str × Value)} {nm : Str} {g₁ : Addr → Sem (List (Str × Value))} {R : List (Str × Value) → Shared → Prop} {E : Value → Shared → Prop} (X : K.In s.heap) (hn : kwDistinct ex = true)
 (hp : peekA K ⟨prog, w.params⟩ (bindArgs fd args) = some (dictOf [] 0, g₁)) (hk₁ : ∀ D, g₁ D = (forIn ex PUnit.unit (fun x ux => (nsSet D x.1 x.2 >>= fun ux => pure (ForInStep.yield PUnit.unit))) >>= fun ux => pure (front ++ [(nm, Value.ref D)])))
 (h : ∀ h' tk o, (∀ b o, s.heap.get? b = some o → h'.get? b = some o) → h'.get? s.heap.objs.size = some o → o.IsDictOf (PySem.strKind prog w) ex → R (front ++ [(nm, .ref s.heap.objs.size)]) { s with heap := h', toks := tk }) : wpAny (model prog w) A (bindArgs fd args) R E s := by
 refine q3 X _ g₁ hp ?_
 erw [hk₁]
 have hn' := kwDistinct_nodup hn
 refine wpAny_bind (mW ex { s with heap := s.heap.push (dictOf [] 0) } [] 0 (Heap.get?_push_size _ rfl) (fun ux he => nomatch he) (fun ux he => nomatch he) hn' fun h' S' D' => wpAny_pure ?_)
 exact h h' _ _ (fun b o e => S'.extBut b o (Nat.ne_of_lt (Heap.lt_size e)) (Heap.get?_push_of_some _ e)) D' (kp_isDict s.toks (0 + ex.length) hn')
end
section
variable {prog : Program} {w : World} {A : Around} {s : Shared} {G : Mem} {ρ : List (Str × D)} {os : List (Addr × Kd)} {Q E : Value → Shared → Prop} {K : Frag} {g : Heap} {p : Program} {loose : List Str} {mean : ExcName → Option Value} {mg mb : Str → Option Value}
theorem gj {h : Heap} (T : Top p loose mean mg mb g) (up : ∀ b o, g.get? b = some o → h.get? b = some o) : (h.objs.size == sysModules) = false := by
 obtain ⟨mc, ⟨o, es, ep, e, _⟩, _⟩ := T.nolimit
 have := Heap.lt_size (up _ _ e)
 have h2 : @LT.lt Nat _ 2 h.objs.size := this
 exact beq_eq_false_iff_ne.mpr fun q => by
  have : h.objs.size = 1 := q
  lia
theorem enterM {a : Addr} {oc : Value} {od : Option Addr} {osl : Array (Option Value)} {fd : FuncData} {body : List Stmt} {args : List Value} {kw : List (Str × Value)} {front ex : List (Str × Value)} {nm : Str} {exD : List (Str × D)} {g₁ : Addr → Sem (List (Str × Value))}
 (X : K.In g) (T : Top p loose mean mg mb g) (hroom : A.depth < recursionLimit) (hin : In G s.heap) (hle : Le g.get? G) (ho : K.lookup a = some ⟨oc, od, .func fd, osl⟩) (hcd : codeIn K fd.code fd.qualname = true)
 (hbody : fd.body = .stmts body) (hn : kwDistinct ex = true) (hex : DR G exD ex)
 (hp : peekA K ⟨prog, w.params⟩ (bindArgs fd ⟨args, kw⟩) = some (dictOf [] 0, g₁)) (hk₁ : ∀ D, g₁ D = (forIn ex PUnit.unit (fun x ux => (nsSet D x.1 x.2 >>= fun ux => pure (ForInStep.yield PUnit.unit))) >>= fun ux => pure (front ++ [(nm, Value.ref D)])))
 (hclo : fd.closure = []) (hkind : ∀ D : Addr, ((front ++ [(nm, Value.ref D)]).all fun y => fd.scope.names.lookup y.1 == some .local || fd.scope.names.lookup y.1 == some .cell) = true)
 (hnd : ((cellsFrom 0 fd.scope.names []).map (·.1)).Nodup)
 (gl : fd.globals = mainGlobals) (bu : fd.builtins = builtinsNs)
 (hos : Held G s.heap os)
 (hρ : ∀ h L D, h.Ns L (bindL (callEnvC fd L a).kindOf (front ++ [(nm, Value.ref D)]) fun ux => none) → (∀ n c, (callEnvC fd L a).cells.lookup n = some c → h.IsCell c (bindC (callEnvC fd L a).kindOf (front ++ [(nm, Value.ref D)]) (fun ux => none) n)) → h.Ns mainGlobals mg → h.Ns builtinsNs mb → ∀ p ∈ ρ, ∃ v, Ld h (callEnvC fd L a) p.1 v ∧ Rp G p.2 v)
 (hrun : ∀ s₁ L D, Fm (os.map (·.1)) s G (callEnvC fd L a) ((nm, .v (.ref D)) :: ρ) ((D, Kd.d prog w exD) :: os) s₁ G → D ∉ os.map (·.1) → (D == sysModules) = false → wpAny (model prog w) (A.deeper (callEnvC fd L a)) (execs body (callEnvC fd L a)) (pK Q) (lH (model prog w) A (callEnvC fd L a) E) s₁)
 (hco : fd.scope.isCoroutine = false) (hgen : fd.scope.isGenerator = false) (hk : fd.scope.kind = .function)
 (hnm : ∀ (h : Heap) (L D : Addr), h.Ns L (bindL (callEnvC fd L a).kindOf (front ++ [(nm, Value.ref D)]) fun ux => none) → Ld h (callEnvC fd L a) nm (.ref D)) :
 wpAny (model prog w) A (call (.ref a) args kw) Q E s := by
 have up : ∀ b o, g.get? b = some o → s.heap.get? b = some o := fun b o e => hin b o (hle b o e)
 refine wpAny_call (codeAny_call_function hroom (up _ _ (X _ _ ho)) rfl hco hgen hbody ((codeRec_of X hcd).keeps up) ?_)
 refine ox (X.keeps up) hn hp hk₁ fun h' tk o kk e i => ?_
 have K01 : Kp s G { s with heap := h', toks := tk } G := aW hin kk
 have hD : s.heap.get? s.heap.objs.size = none := aq s.heap
 have hsm := gj T up
 generalize hDD : s.heap.objs.size = D at e hD hsm
 generalize hs₁ : ({ s with heap := h', toks := tk } : Shared) = s₁ at K01
 have e : s₁.heap.get? D = some o := by rw [← hs₁]; exact e
 have kk : ∀ b o, s.heap.get? b = some o → s₁.heap.get? b = some o := K01.hp
 have hos₁ := hos.go K01
 have nD : D ∉ os.map (·.1) := fun q => by
  obtain ⟨p, hp, rfl⟩ := List.mem_map.mp q
  obtain ⟨_, o', e', _⟩ := hos.1 p hp
  rw [hD] at e'; cases e'
 have gD : G D = none := ai hin hD
 erw [hclo]
 refine wpAny_newFunctionEnv_cells hk (kindsX (hkind _) _) fun env' he s' x => ?_
 subst he
 refine ⟨(T.nolimit.keeps up).keeps fun b o e => x.toInCall.keep _ _ (kk b o e), codeAny_func ?_⟩
 obtain ⟨h₁, tk₁, e₁, kk₁⟩ := x.done
 have fr : ∀ b, s₁.heap.objs.size ≤ b → s₁.heap.get? b = none := fun b hb => cW hb
 have nd : ((cellsFrom (s₁.heap.objs.size + 1) fd.scope.names []).map (·.1)).Nodup := cellsFrom_names fd.scope.names 0 (s₁.heap.objs.size + 1) [] [] rfl ▸ hnd
 have hf : Fm (((D, Kd.d prog w exD) :: os).map (·.1)) s₁ G (callEnvC fd s₁.heap.objs.size a) ((nm, .v (.ref D)) :: ρ) ((D, Kd.d prog w exD) :: os) s' G := by
  have k0 : ∀ b o, s₁.heap.get? b = some o → s'.heap.get? b = some o := x.toInCall.keep
  have ownfr : ∀ b ∈ own (callEnvC fd s₁.heap.objs.size a), s₁.heap.get? b = none := fun b hb => by
   rcases List.mem_cons.mp hb with q | q
   · erw [q]; exact fr _ (Nat.le_refl _)
   · obtain ⟨p, hp, rfl⟩ := List.mem_map.mp q
     exact fr _ (Nat.le_of_lt (x.above p.1 p.2 hp))
  have ne : ∀ {b : Addr} {m}, s₁.heap.Ns b m → s₁.heap.objs.size ≠ b := fun {b m} hb q => by
   obtain ⟨o, _, _, e, _⟩ := hb
   rw [← q, fr _ (Nat.le_refl _)] at e; cases e
  have up₁ : ∀ b o, g.get? b = some o → s₁.heap.get? b = some o := fun b o e => kk b o (up b o e)
  have nfar : ∀ {b : Addr}, G b = none → ∀ {c : Addr} {m}, g.Ns c m → b ≠ c := fun {b} hb {c m} hc q => by
   obtain ⟨o, _, _, e, _⟩ := hc
   rw [q, hle _ _ e] at hb; cases hb
  have inG : In G s₁.heap := K01.sub
  refine ⟨⟨⟨h₁, tk₁, e₁, fun b o ux e => kk₁ b o e⟩, fun ux ux e => e, fun b o e => k0 _ _ (inG b o e), fun ux ux e => .inl e⟩, ⟨hk, ?_, ?_, fun b o e => k0 _ _ (inG b o e), ?_⟩, ⟨⟨_, x.toInCall.ns⟩, ai inG (fr _ (Nat.le_refl _)), ?_, ?_, hk, fun n c hm => ⟨⟨_, x.cell n c (lookup_of_mem_nodup nd hm)⟩, ai inG (fr _ (Nat.le_of_lt (x.above n c hm)))⟩, ?_⟩, fun p hp => ?_, ?_, fun b hb => ?_, fun b hb => List.mem_append_right _ hb⟩
  · erw [show (callEnvC fd s₁.heap.objs.size a).globals = mainGlobals from gl]; exact ⟨mg, (T.g.keeps up₁).keeps k0⟩
  · erw [show (callEnvC fd s₁.heap.objs.size a).builtins = builtinsNs from bu]; exact ⟨mb, (T.b.keeps up₁).keeps k0⟩
  · intro p hp
    rcases List.mem_cons.mp hp with rfl | hp
    · exact ⟨_, hnm _ _ _ x.toInCall.ns, rfl⟩
    · exact hρ _ _ _ x.toInCall.ns x.cell ((T.g.keeps up₁).keeps k0) ((T.b.keeps up₁).keeps k0) p hp
  · erw [show (callEnvC fd s₁.heap.objs.size a).globals = mainGlobals from gl]; exact ne (T.g.keeps up₁)
  · erw [show (callEnvC fd s₁.heap.objs.size a).builtins = builtinsNs from bu]; exact ne (T.b.keeps up₁)
  · exact cT x.apart
  · have base : G p.1 = none ∧ ∃ o, s₁.heap.get? p.1 = some o ∧ p.2.ok G o := by
     rcases List.mem_cons.mp hp with rfl | hp
     · exact ⟨gD, o, e, ⟨_, i, hex⟩⟩
     · exact hos₁.1 p hp
    obtain ⟨g0, o, e, q⟩ := base
    refine ⟨g0, fun hm => ?_, o, k0 _ _ e, q⟩
    rcases List.mem_cons.mp hm with z | z
    · exact nfar g0 T.g (z.trans gl)
    · rcases List.mem_cons.mp z with z | z
      · exact nfar g0 T.b (z.trans bu)
      · rw [ownfr _ z] at e; cases e
  · exact List.nodup_cons.mpr ⟨nD, hos.2⟩
  · rcases List.mem_append.mp hb with q | q
    · exact .inr (ownfr b q)
    · exact .inl q
 have hf' := hf.rebase (wr := os.map (·.1)) K01 (fun b hb => by
  rcases List.mem_cons.mp hb with rfl | hb
  · exact .inr hD
  · exact .inl hb) fun b hb => .tail _ hb
 exact wpAny_mono (hrun s' _ D hf' nD hsm) (fun fl s'' h => h) fun ux ux h => h
end
set_option tactic.hygienic false
theorem pl1 {α : Type} (x a : α) (l : List α) : (x :: a :: l).Perm (a :: x :: l) := List.Perm.swap a x l
theorem pl2 {α : Type} (x y a : α) (l : List α) : (x :: y :: a :: l).Perm (a :: x :: y :: l) := ((pl1 y a l).cons x).trans (pl1 x a _)
theorem pl3 {α : Type} (x y z a : α) (l : List α) : (x :: y :: z :: a :: l).Perm (a :: x :: y :: z :: l) := ((pl2 y z a l).cons x).trans (pl1 x a _)
theorem pl4 {α : Type} (x y z u a : α) (l : List α) : (x :: y :: z :: u :: a :: l).Perm (a :: x :: y :: z :: u :: l) := ((pl3 y z u a l).cons x).trans (pl1 x a _)
theorem pl5 {α : Type} (x y z u v a : α) (l : List α) : (x :: y :: z :: u :: v :: a :: l).Perm (a :: x :: y :: z :: u :: v :: l) := ((pl4 y z u v a l).cons x).trans (pl1 x a _)
theorem pc1 {α : Type} {x a : α} {l r : List α} (h : (x :: l).Perm r) : (x :: a :: l).Perm (a :: r) := (pl1 x a l).trans (h.cons a)
theorem pc2 {α : Type} {x y a : α} {l r : List α} (h : (x :: y :: l).Perm r) : (x :: y :: a :: l).Perm (a :: r) := (pl2 x y a l).trans (h.cons a)
theorem pc3 {α : Type} {x y z a : α} {l r : List α} (h : (x :: y :: z :: l).Perm r) : (x :: y :: z :: a :: l).Perm (a :: r) := (pl3 x y z a l).trans (h.cons a)
theorem pc4 {α : Type} {x y z u a : α} {l r : List α} (h : (x :: y :: z :: u :: l).Perm r) : (x :: y :: z :: u :: a :: l).Perm (a :: r) := (pl4 x y z u a l).trans (h.cons a)
theorem pc5 {α : Type} {x y z u v a : α} {l r : List α} (h : (x :: y :: z :: u :: v :: l).Perm r) : (x :: y :: z :: u :: v :: a :: l).Perm (a :: r) := (pl5 x y z u v a l).trans (h.cons a)
section
variable {prog : Program} {w : World} {A : Around} {wr : List Addr} {s₀ s s' : Shared} {G₀ G G' : Mem} {env : Env} {ρ ρ' ρ₁ : List (Str × D)} {os os' rest : List (Addr × Kd)}
theorem fV {a d : Addr} {fd : FuncData} {sl : Array (Option Value)} {m : Str → Option Value} {name : Str} {v : Value} {pl : Sem Bool} {Q : Value × List Value → Shared → Prop} {E : Value → Shared → Prop} (hx : s.heap.get? a = some (bR (some d) fd sl)) (hn : s.heap.Ns d m)
 (hmiss : gx name = true) (hm : m name = some v) (hv : ∀ id, v ≠ .builtin id) (h : ∀ tk, Q (v, []) { s with toks := tk }) : wpAny (model prog w) A (getMethod (.ref a) name pl) Q E s := by
 have hT : s.TypeIs (.ref a) "function" := ⟨_, hx, rfl⟩
 unfold getMethod
 refine wpAny_bind (wpAny_specialOf hT ga_slot.lookup ?_)
 dsimp only
 erw [if_neg (by decide +kernel)]
 refine wpAny_bind (wpAny_specialOf hT g9 ?_)
 erw [if_neg (by simp)]
 refine wpAny_bind (wpAny_specialOf hT (cR hmiss) ?_)
 dsimp only
 exact wpAny_bind (mm hx hn (cR hmiss) hm hv fun tk => wpAny_pure (h tk))
theorem iT {pos : Pos} {m L : Addr} {args : List (Bool × Sem Value)} {Q : Value → Shared → Prop} {E : Value → Shared → Prop} (hplain : args.any (·.1) = false)
 (h : wpAny (model prog w) A (evalArgs (.ref m) true args []) (fun x s₁ => s₁.heap.get? m = some (dn L) ∧ x.kw = [] ∧ wpAny (model prog w) A (call (.ref m) x.pos) Q E s₁) E s) : wpAny (model prog w) A (callWith pos (.ref m) [] args []) Q E s := by
 unfold callWith
 refine wpAny_bind (wpAny_holding (wpAny_mono h (fun a s₁ h₁ => wpAny_bind (wpAny_standAt ?_)) fun ux ux x => x))
 obtain ⟨e, hk, hc⟩ := h₁
 simp only [hplain, List.any_nil, Bool.or_false]
 refine wpAny_bind (m := keeperOf (.ref m)) ?_
 unfold keeperOf
 refine wpAny_bind (wpAny_load e ?_)
 dsimp only
 erw [if_pos (by decide)]
 refine wpAny_pure ?_
 erw [if_pos (by decide)]
 dsimp only
 erw [hk]
 exact wpAny_bind (wpAny_mono hc (fun r s₂ hr => wpAny_bind (wpAny_holding (wpAny_point (wpAny_pure hr)))) fun ux ux x => x)
theorem eZ {es : List Expr} {ds : List D} {pos : Pos} {Q : List Value → Shared → Prop} {E : Value → Shared → Prop} (f : Fm wr s₀ G₀ env ρ os s G) (ha : EvL (model prog w) A env ρ es ds) (h : ∀ vs s' G', Fm wr s₀ G₀ env ρ os s' G' → Le G G' → RpL G' ds vs → Q vs s') : wpAny (model prog w) A (spliced (backTo pos (starEach es env))) Q E s :=
 ha pos s G Q E f.E fun vs s' G' k r => h vs s' G' (f.go k) k.le r
theorem kP {a : Addr} {o : Obj} {fd : FuncData} {e : Expr} {es : List Expr} {ds : List D} {pos : Pos} {Q : Value → Shared → Prop} {E : Value → Shared → Prop} (f : Fm wr s₀ G₀ env ρ os s G) (ha : EvL (model prog w) A env ρ (e :: es) ds) (hd : o.data = .func fd) (ho : ∀ s' G', Fm wr s₀ G₀ env ρ os s' G' → s'.heap.get? a = some o)
 (h : ∀ vs s' G', Fm wr s₀ G₀ env ρ os s' G' → Le G G' → RpL G' ds vs → wpAny (model prog w) A (call (.ref a) vs) Q E s') (he : starEach (e :: es) env = (false, eval e env) :: starEach es env := by rfl) : wpAny (model prog w) A (callWith pos (.ref a) [] (backTo pos (starEach (e :: es) env)) []) Q E s := by
 have key : wpAny (model prog w) A (evalArgs (.ref a) true (backTo pos (starEach (e :: es) env)) []) (fun x s₂ => (s₂.heap.get? a = some o ∧ o.data = .func fd) ∧ wpAny (model prog w) A (call (.ref a) ([] ++ x.pos) x.kw) Q E s₂) E s := by
  have h := eZ (pos := pos) (E := E) f ha fun vs s' G' f' le r => And.intro (And.intro (ho s' G' f') hd) (h vs s' G' f' le r)
  rw [he] at h ⊢
  exact evalArgs_plain h
 exact callWith_function key
theorem j5 {m L : Addr} {e : Expr} {es : List Expr} {ds : List D} {pos : Pos} {Q : Value → Shared → Prop} {E : Value → Shared → Prop} (f : Fm wr s₀ G₀ env ρ os s G) (ha : EvL (model prog w) A env ρ (e :: es) ds) (ho : ∀ s' G', Fm wr s₀ G₀ env ρ os s' G' → Le G G' → s'.heap.get? m = some (dn L))
 (h : ∀ vs s' G', Fm wr s₀ G₀ env ρ os s' G' → Le G G' → RpL G' ds vs → wpAny (model prog w) A (call (.ref m) vs) Q E s') (he : starEach (e :: es) env = (false, eval e env) :: starEach es env := by rfl) (hplain : (backTo pos (starEach es env)).any (·.1) = false := by rfl) : wpAny (model prog w) A (callWith pos (.ref m) [] (backTo pos (starEach (e :: es) env)) []) Q E s := by
 refine iT (L := L) (by erw [he]; exact hplain) ?_
 have h := eZ (pos := pos) (E := E) f ha fun vs s' G' f' le r => And.intro (ho s' G' f' le) (And.intro (rfl : ([] : List (Str × Value)) = []) (h vs s' G' f' le r))
 rw [he] at h ⊢
 exact evalArgs_plain h
end
set_option tactic.hygienic false
theorem kM {prog : Program} {w : World} {G : Mem} {h : Heap} {a : Addr} {n : Nat} (e : h.get? a = some { cls := .type "dict", dict := none, data := .dict #[] n, slots := #[] }) : DkO prog w G { cls := .type "dict", dict := none, data := .dict #[] n, slots := #[] } [] :=
 ⟨[], ⟨#[], n, ⟨rfl, rfl, rfl⟩, rfl, fun e he => absurd he (by simp), Pairs.nil, List.nodup_nil⟩, rfl⟩
inductive SubIn (pf : Addr) (tag : Str) (t : Tok) : List Value → List (Str × Value) → Addr → Prop
 | p : SubIn pf tag t [.ref pf, .str tag t] [] 55
 | a {ta : Addr} : SubIn pf tag t [.ref pf, .str tag t, .ref ta] [] ta
 | k {x y : Int} {u v : Tok} : SubIn pf tag t [.ref pf, .str tag t] [(Str.ofString "d", .int x u), (Str.ofString "w", .int y v)] 55
 | b {ta : Addr} {x y : Int} {u v : Tok} : SubIn pf tag t [.ref pf, .str tag t, .ref ta] [(Str.ofString "d", .int x u), (Str.ofString "w", .int y v)] ta
theorem SubIn.el {pf : Addr} {tag : Str} {t : Tok} {vs : List Value} {ex : List (Str × Value)} {ta : Addr} (h : SubIn pf tag t vs ex ta) {P : List Value → List (Str × Value) → Addr → Prop} (h1 : P [.ref pf, .str tag t] [] 55) (h2 : ∀ ta, P [.ref pf, .str tag t, .ref ta] [] ta)
 (h3 : ∀ (x y : Int) (u v : Tok), P [.ref pf, .str tag t] [(Str.ofString "d", .int x u), (Str.ofString "w", .int y v)] 55) (h4 : ∀ (ta : Addr) (x y : Int) (u v : Tok), P [.ref pf, .str tag t, .ref ta] [(Str.ofString "d", .int x u), (Str.ofString "w", .int y v)] ta) : P vs ex ta := by
 cases h
 · exact h1
 · exact h2 _
 · exact h3 _ _ _ _
 · exact h4 _ _ _ _ _
set_option maxRecDepth 100000 in
set_option maxHeartbeats 4000000 in
theorem hY {w : World} {A : Around} {g : Heap} {p : Program} {loose : List Str} {mean : ExcName → Option Value} {mg mb : Str → Option Value} (X : (hd.heap_39 w.params).In g) (T : Top p loose mean mg mb g) (C : CodeHd g 86 82) (hA : A.handled = none) (hroom : A.depth + 1 < recursionLimit)
 {s : Shared} {G : Mem} {Q E : Value → Shared → Prop} {vs : List Value} {ex : List (Str × Value)} {exD : List (Str × D)} {t₂ : Tok} {tag ptag : Str} {pf pat Lp ta : Addr} {ds₀ : List (Str × D)} {ot : Obj} {kids : List D} (hin : In G s.heap) (hle : Le g.get? G) (hI : SubIn pf tag t₂ vs ex ta) (hex : DR G exD ex) (hnd : kwDistinct ex = true) (hxl : exD.length ≤ 10) (hN : Node G pf ptag pat Lp) (hta : G ta = some ot) (hot : DkO Challenge.rw_wb0032_01.row.prog w G ot ds₀) (hns : (ta == sysModules) = false) (hd0 : ds₀.length ≤ 100) (hkl : kids.length ≤ 1000)
 (hh : Held G s.heap [(82, ay 86 10), (Lp, .l kids)])
 (hQ : ∀ s' G' f L at_, Eff [(82, ay 86 10), (Lp, .l kids)] [(82, ay 86 10), (Lp, .l (kids ++ [.v (.ref f)])), (L, .l []), (at_, Kd.d Challenge.rw_wb0032_01.row.prog w (aD (aD [] ds₀) exD))] s G s' G' → Node G' f tag at_ L → s.heap.get? f = none → (at_ == sysModules) = false → Q (.ref f) s') : wpAny (model Challenge.rw_wb0032_01.row.prog w) A (call (.ref 63) vs ex) Q E s := by
 have hroom0 : A.depth < recursionLimit := by lia
 revert X
 k_fill
 intro X
 have h87 := X 87 _ (by k_is)
 k_dflt (refine' enterM (os := [(82, ay 86 10), (Lp, .l kids)]) (nm := "extra") (exD := exD) (ex := ex) (g₁ := fun D => forIn ex PUnit.unit (fun x ux => (nsSet D x.1 x.2 >>= fun ux => pure (ForInStep.yield PUnit.unit))) >>= fun ux => pure ([(("parent":Str), .ref pf), ("tag", .str tag t₂), ("attrib", .ref ta)] ++ [(("extra":Str), Value.ref D)])) (front := [(("parent":Str), .ref pf), ("tag", .str tag t₂), ("attrib", .ref ta)]) (ρ := [(("parent":Str), .v (.ref pf)), ("tag", .s tag), ("attrib", .v (.ref ta))]) X T hroom0 hin hle ?ho ?hcd ?hbody ?hn ?hex ?hp ?hk₁ ?hclo ?hkind ?hnd ?gl ?bu ?hos ?hρ ?hrun ?hco ?hgen ?hk ?hnm; ((case ho | hcd => k_is); (case hnd => decide +kernel); (case hbody | hclo | gl | bu | hco | hgen | hk => exact rfl)); (case hn => exact hnd); (case hex => exact hex); (case hp => clear hex hnd hh hQ hta hroom hroom0 hin hle hN hot hns hd0 hkl hxl h87 X T C; cases hI <;> exact rfl); (case hk₁ => exact fun ux => rfl); (case hkind => exact fun ux => rfl); (case hos => exact hh); (case hnm => exact fun h L D hn => .loc rfl hn rfl))
 case hρ =>
  intro h L D hn hc hg hb
  repeat' first | exact List.forall_mem_nil _ | with_reducible refine aM ?_ ?_
  · exact al hn rfl rfl rfl rfl
  · exact al hn rfl rfl rfl ⟨_, rfl⟩
  · exact al hn rfl rfl rfl rfl
 case hrun =>
  intro s₁ L D f₁ nD hsD
  refine cp fun E' => ?_
  have ups : ∀ {env : Env} {ρ : List (Str × Mine.D)} {os : List (Addr × Kd)} {s₂ : Shared} {G₂ : Mem}, Fm [82, Lp] s G env ρ os s₂ G₂ → (s₂.heap.objs.size == sysModules) = false := fun f => gj T fun b o e => f.E.sub _ _ (f.K.le _ _ (hle _ _ e))
  refine aP (wr := [82, Lp]) (s₀ := s) (G₀ := G) ar (oh f₁ (aa (d := .v (.ref ta)) m3) (aa (d := .v (.ref D)) m0) (fun ux ux h => h) (fun ux ux h => h) (ds := ds₀) (es := exD) ?ha ?hb hns hsD ?hsz (ups f₁) fun s₂ G₂ at_ f₂ le₂ na₂ hs₂ => ?_)
  case ha => exact fun s₂ G₂ f => ⟨_, f.E.sub _ _ (f.K.le _ _ hta), hot.mono f.K.le⟩
  case hb =>
   intro s₂ G₂ f
   refine aG fun Z kZ => ?_
   obtain ⟨_, _, o, e, k⟩ := f.S _ (.head _)
   refine kZ ?_
   clear kZ Z
   exact ⟨o, e, k⟩
  case hsz => lia
  have frat : s.heap.get? at_ = none := by
   rcases f₂.F at_ (List.mem_append_right _ (.head _)) with q | q
   · exact absurd q na₂
   · exact q
  refine cL (d := .v (.ref at_)) (ρ' := [(("attrib":Str), .v (.ref at_)), ("parent", .v (.ref pf)), ("tag", .s tag)]) f₂ rfl aU fun s₃ f₃ => ?_
  refine aP (wr := [82, Lp]) (s₀ := s) (G₀ := G) ar (MethodCall_ (az f₃ (d := .v (.ref pf)) m1 fun v s₄ G₄ f₄ le₄ r₄ => ?_) rfl)
  obtain rfl : v = .ref pf := r₄
  refine Node.exK (hN.mono f₄.K.le) fun m t ma hF ht ha hi hap hma hmk => ?_
  refine Fn.exK hF fun fd sl dd od hf1 hf2 hf3 => ?_
  refine fV (f₄.E.sub _ _ hf1) (hf3.ns1 (f₄.E.sub _ _ hf2)).ns (by decide +kernel) hmk (by intro id; simp) fun tk => ?_
  have f₄ := f₄.go (Kp.tok f₄.E.sub tk)
  refine kP (ds := [.s tag, .v (.ref at_)]) f₄ (ab (aa m2) (ab (aa m0) ae)) rfl (fun s' G' f' => f'.E.sub _ _ (f'.K.le _ _ (hle _ _ h87))) fun vs s₅ G₅ f₅ le₅ r₅ => ?_
  have f₅ := f₅.perm (pl2 _ _ _ _)
  refine il (A := A.deeper _) X T C hA hroom f₅.E.sub (hle.tr f₅.K.le) r₅ (Held.left (os := [(82, ay 86 10)]) f₅.held) fun s₆ G₆ f L' ef nd fr₆ => ?_
  have f₆ := f₅.called (os := [(82, ay 86 10)]) ef fun b hb ux => .tail _ hb
  have frf : s.heap.get? f = none := by
   cases z : s.heap.get? f with
   | none => rfl
   | some o =>
     by_cases hb : f ∈ [82, Lp]
     · obtain ⟨_, o', e'⟩ := f₅.out (f₅.W f hb)
       rw [fr₆] at e'; cases e'
     · rw [f₅.K.hp _ _ hb z] at fr₆; cases fr₆
  refine cL (d := .v (.ref f)) (ρ' := [(("element":Str), .v (.ref f)), ("attrib", .v (.ref at_)), ("parent", .v (.ref pf)), ("tag", .s tag)]) f₆ rfl af fun s₇ f₇ => ?_
  refine de (MethodCall_ (az f₇ (d := .v (.ref pf)) m2 fun v s₈ G₈ f₈ le₈ r₈ => ?_) rfl) rfl rfl
  obtain rfl : v = .ref pf := r₈
  have le48 : Le G₄ G₈ := (le₅.tr ef.K.le).tr le₈
  refine fV (f₈.E.sub _ _ (le48 _ _ hf1)) (hf3.ns1 (f₈.E.sub _ _ (le48 _ _ hf2))).ns (by decide +kernel) hap (by intro id; simp) fun tk => ?_
  have f₈ := f₈.go (Kp.tok f₈.E.sub tk)
  refine j5 (L := Lp) (ds := [.v (.ref f)]) f₈ (ab (aa m0) ae) (fun s' G' f' le' => f'.E.sub _ _ (le' _ _ (le48 _ _ hma))) fun vs s₉ G₉ f₉ le₉ r₉ => ?_
  refine aG fun Z kZ => ?_
  obtain ⟨v, _, rfl, rv, rfl⟩ := r₉
  refine kZ ?_
  clear kZ Z
  obtain rfl : v = .ref f := rv
  have f₉ := f₉.perm ((pl4 _ _ _ _ _ _))
  refine aG fun Z kZ => ?_
  obtain ⟨gL, nLf, oL, eL, vsL, nn, rfl, rL⟩ := f₉.S _ (.head _)
  refine kZ ?_
  clear kZ Z
  have hlen : vsL.size = kids.length := by have := rL.length; simpa using this
  refine mh (f₉.E.sub _ _ (le₉ _ _ (le48 _ _ hma))) eL (by erw [hlen, sizeLine_eq]; lia) fun h' hsb ho => ?_
  have fA := f₉.mut0 (k' := .l (kids ++ [.v (.ref f)])) (t := s₉.toks) hsb ho ⟨_, _, rfl, by erw [Array.toList_push]; exact RpL.append rL (RpL.one rfl)⟩
  refine wpAny_execs_cons (wpAny_Return_some (az fA (d := .v (.ref f)) m0 fun v sB GB fB leB rB => ?_))
  obtain rfl : v = .ref f := rB
  have fC := fB.perm (pl2 _ _ _ _)
  refine hQ sB GB f L' at_ (fC.eff (os := [(82, ay 86 10), (Lp, .l kids)]) ?_) (nd.mono ?_) frf hs₂
  · exact ((((List.nil_sublist _).cons _).cons_cons _).cons_cons _).cons_cons _ |>.cons_cons _
  · exact (le₈.tr le₉).tr leB
theorem qn {w : World} {A : Around} {g : Heap} {p : Program} {loose : List Str} {mean : ExcName → Option Value} {mg mb : Str → Option Value} (X : (hd.heap_39 w.params).In g) (T : Top p loose mean mg mb g) (C : CodeHd g 86 82) (hA : A.handled = none) (hroom : A.depth + 1 < recursionLimit)
 {s : Shared} {G : Mem} {Q E : Value → Shared → Prop} {vs ks : List Value} {tag ptag : Str} {pf pat Lp ta : Addr} {x y : Int} {ds₀ : List (Str × D)} {ot : Obj} {kids : List D} (hin : In G s.heap) (hle : Le g.get? G) (hvs : RpL G [.v (.ref pf), .s tag, .v (.ref ta)] vs) (hks : RpL G [.i x, .i y] ks) (hN : Node G pf ptag pat Lp) (hta : G ta = some ot) (hot : DkO Challenge.rw_wb0032_01.row.prog w G ot ds₀) (hns : (ta == sysModules) = false) (hd0 : ds₀.length ≤ 100) (hkl : kids.length ≤ 1000)
 (hh : Held G s.heap [(82, ay 86 10), (Lp, .l kids)])
 (hQ : ∀ s' G' f L at_, Eff [(82, ay 86 10), (Lp, .l kids)] [(82, ay 86 10), (Lp, .l (kids ++ [.v (.ref f)])), (L, .l []), (at_, Kd.d Challenge.rw_wb0032_01.row.prog w (aD (aD [] ds₀) [(("d":Str), .i x), ("w", .i y)]))] s G s' G' → Node G' f tag at_ L → s.heap.get? f = none → (at_ == sysModules) = false → Q (.ref f) s') : wpAny (model Challenge.rw_wb0032_01.row.prog w) A (call (.ref 63) vs ([("d":Str), ("w":Str)].zip ks)) Q E s := by
 refine k_vsv (Z := fun vs => wpAny _ _ (call _ vs _) _ _ _) hvs fun t₂ => ?_
 obtain ⟨k₁, q, rfl, ⟨u₁, rfl⟩, k₂, q', rfl, ⟨u₂, rfl⟩, rfl⟩ := hks
 exact hY X T C hA hroom (exD := [(("d":Str), .i x), ("w", .i y)]) hin hle .b ⟨_, _, rfl, ⟨_, rfl⟩, _, _, rfl, ⟨_, rfl⟩, rfl⟩ rfl (Nat.le_of_ble_eq_true rfl) hN hta hot hns hd0 hkl hh hQ
theorem ct_subg {w : World} {A : Around} {g : Heap} {p : Program} {loose : List Str} {mean : ExcName → Option Value} {mg mb : Str → Option Value} (X : (hd.heap_39 w.params).In g) (T : Top p loose mean mg mb g) (C : CodeHd g 86 82) (hA : A.handled = none) (hroom : A.depth + 1 < recursionLimit)
 {s : Shared} {G : Mem} {Q E : Value → Shared → Prop} {vs : List Value} {tag ptag : Str} {pf pat Lp ta : Addr} {ds₀ : List (Str × D)} {ot : Obj} {kids : List D} (hin : In G s.heap) (hle : Le g.get? G) (hvs : RpL G [.v (.ref pf), .s tag, .v (.ref ta)] vs) (hN : Node G pf ptag pat Lp) (hta : G ta = some ot) (hot : DkO Challenge.rw_wb0032_01.row.prog w G ot ds₀) (hns : (ta == sysModules) = false) (hd0 : ds₀.length ≤ 100) (hkl : kids.length ≤ 1000)
 (hh : Held G s.heap [(82, ay 86 10), (Lp, .l kids)])
 (hQ : ∀ s' G' f L at_, Eff [(82, ay 86 10), (Lp, .l kids)] [(82, ay 86 10), (Lp, .l (kids ++ [.v (.ref f)])), (L, .l []), (at_, Kd.d Challenge.rw_wb0032_01.row.prog w (aD (aD [] ds₀) []))] s G s' G' → Node G' f tag at_ L → s.heap.get? f = none → (at_ == sysModules) = false → Q (.ref f) s') : wpAny (model Challenge.rw_wb0032_01.row.prog w) A (call (.ref 63) vs []) Q E s := by
 refine k_vsv (Z := fun vs => wpAny _ _ (call _ vs _) _ _ _) hvs fun t₂ => ?_
 exact hY X T C hA hroom (exD := []) hin hle .a rfl rfl (Nat.le_of_ble_eq_true rfl) hN hta hot hns hd0 hkl hh hQ
theorem ct_subk {w : World} {A : Around} {g : Heap} {p : Program} {loose : List Str} {mean : ExcName → Option Value} {mg mb : Str → Option Value} (X : (hd.heap_39 w.params).In g) (T : Top p loose mean mg mb g) (C : CodeHd g 86 82) (hA : A.handled = none) (hroom : A.depth + 1 < recursionLimit)
 {s : Shared} {G : Mem} {Q E : Value → Shared → Prop} {vs ks : List Value} {tag ptag : Str} {pf pat Lp : Addr} {x y : Int} {kids : List D} (hin : In G s.heap) (hle : Le g.get? G) (hvs : RpL G [.v (.ref pf), .s tag] vs) (hks : RpL G [.i x, .i y] ks) (hN : Node G pf ptag pat Lp) (hkl : kids.length ≤ 1000)
 (hh : Held G s.heap [(82, ay 86 10), (Lp, .l kids)])
 (hQ : ∀ s' G' f L at_, Eff [(82, ay 86 10), (Lp, .l kids)] [(82, ay 86 10), (Lp, .l (kids ++ [.v (.ref f)])), (L, .l []), (at_, Kd.d Challenge.rw_wb0032_01.row.prog w (aD (aD [] []) [(("d":Str), .i x), ("w", .i y)]))] s G s' G' → Node G' f tag at_ L → s.heap.get? f = none → (at_ == sysModules) = false → Q (.ref f) s') : wpAny (model Challenge.rw_wb0032_01.row.prog w) A (call (.ref 63) vs ([("d":Str), ("w":Str)].zip ks)) Q E s := by
 refine k_vs (Z := fun vs => wpAny _ _ (call _ vs _) _ _ _) hvs fun t₂ => ?_
 obtain ⟨k₁, q, rfl, ⟨u₁, rfl⟩, k₂, q', rfl, ⟨u₂, rfl⟩, rfl⟩ := hks
 have h55 : g.get? 55 = some { cls := .type "dict", dict := none, data := .dict #[] 0, slots := #[] } := X 55 _ (by kernel_rfl)
 exact hY X T C hA hroom (exD := [(("d":Str), .i x), ("w", .i y)]) hin hle .k ⟨_, _, rfl, ⟨_, rfl⟩, _, _, rfl, ⟨_, rfl⟩, rfl⟩ rfl (Nat.le_of_ble_eq_true rfl) hN (hle _ _ h55) (kM h55) (by decide) (Nat.le_of_ble_eq_true rfl) hkl hh hQ
theorem ct_sub {w : World} {A : Around} {g : Heap} {p : Program} {loose : List Str} {mean : ExcName → Option Value} {mg mb : Str → Option Value} (X : (hd.heap_39 w.params).In g) (T : Top p loose mean mg mb g) (C : CodeHd g 86 82) (hA : A.handled = none) (hroom : A.depth + 1 < recursionLimit)
 {s : Shared} {G : Mem} {Q E : Value → Shared → Prop} {vs : List Value} {tag ptag : Str} {pf pat Lp : Addr} {kids : List D} (hin : In G s.heap) (hle : Le g.get? G) (hvs : RpL G [.v (.ref pf), .s tag] vs) (hN : Node G pf ptag pat Lp) (hkl : kids.length ≤ 1000)
 (hh : Held G s.heap [(82, ay 86 10), (Lp, .l kids)])
 (hQ : ∀ s' G' f L at_, Eff [(82, ay 86 10), (Lp, .l kids)] [(82, ay 86 10), (Lp, .l (kids ++ [.v (.ref f)])), (L, .l []), (at_, Kd.d Challenge.rw_wb0032_01.row.prog w (aD (aD [] []) []))] s G s' G' → Node G' f tag at_ L → s.heap.get? f = none → (at_ == sysModules) = false → Q (.ref f) s') : wpAny (model Challenge.rw_wb0032_01.row.prog w) A (call (.ref 63) vs []) Q E s := by
 refine k_vs (Z := fun vs => wpAny _ _ (call _ vs _) _ _ _) hvs fun t₂ => ?_
 have h55 : g.get? 55 = some { cls := .type "dict", dict := none, data := .dict #[] 0, slots := #[] } := X 55 _ (by kernel_rfl)
 exact hY X T C hA hroom (exD := []) hin hle .p rfl rfl (Nat.le_of_ble_eq_true rfl) hN (hle _ _ h55) (kM h55) (by decide) (Nat.le_of_ble_eq_true rfl) hkl hh hQ
set_option tactic.hygienic false
section
variable {prog : Program} {w : World} {A : Around} {wr : List Addr} {s₀ s s' : Shared} {G₀ G G' : Mem} {env : Env} {ρ ρ' ρ₁ : List (Str × D)} {os os' os₁ os₂ rest : List (Addr × Kd)} {stm : List Stmt}
noncomputable def upG (G : Mem) : D → D
 | .v u => .g G u
 | .g _ u => .g G u
 | d => d
theorem rp_up {G G' : Mem} {v : Value} (le : Le G G') : ∀ {d : D}, Rp G' d v → Rp G' (upG G d) v
 | .v _, h => ⟨h, le⟩
 | .g _ _, h => ⟨h.1, le⟩
 | .i _, h | .b _, h | .s _, h | .n, h | .l _, h | .t _, h => h
theorem qu {G G' : Mem} (le : Le G G') : ∀ {ds : List D} {vs : List Value}, RpL G' ds vs → RpL G' (ds.map (upG G)) vs
 | [], _, h => h
 | _ :: _, _, h => dg (Z := RpL G' _) h fun _ _ h t => rc (rp_up le h) (qu le t)
theorem kl_up {G G' : Mem} {ds : List D} {a : Addr} {o : Obj} (h : (Kd.l ds).ok G o) (e : G a = some o) (le : Le G G') : Rp G' (.l (ds.map (upG G))) (.ref a) := let ⟨vs, k, q, r⟩ := h; ⟨a, vs, k, rfl, q ▸ le _ _ e, qu le (r.mono le)⟩
theorem Fm.say2B (cs : List Str) (f : Fm wr s₀ G₀ env ρ os s G) (h : ρ'.map (fun p => bif cs.contains p.1 then (ρ.lookup p.1).map (upG G) else ρ.lookup p.1) = ρ'.map fun p => some p.2 := by kernel_rfl) : Fm wr s₀ G₀ env ρ' os s G :=
 ⟨f.K, ⟨f.E.fn, f.E.gl, f.E.bu, f.E.sub, fun p hp => by
  have h := List.map_inj_left.mp h p hp
  cases hc : cs.contains p.1 with
  | false =>
    rw [hc, cond_false] at h
    exact f.E.at' _ (f9 h)
  | true =>
    rw [hc, cond_true] at h
    have ⟨d, hd, e⟩ := Option.map_eq_some_iff.mp h
    have ⟨v, l, r⟩ := f.E.at' _ (f9 hd)
    refine ⟨v, l, ?_⟩
    rw [← e]
    cases d with
    | v u => exact ⟨r, Le.rf _⟩
    | g H u => exact ⟨r.1, Le.rf _⟩
    | _ => exact r⟩, f.O, f.S, f.N, f.F, f.W⟩
theorem Fm.say2 (f : Fm wr s₀ G₀ env ρ os s G) (h : ∀ p ∈ ρ', ∃ q ∈ ρ, q.1 = p.1 ∧ ∀ v, Rp G q.2 v → Rp G p.2 v) : Fm wr s₀ G₀ env ρ' os s G :=
 ⟨f.K, ⟨f.E.fn, f.E.gl, f.E.bu, f.E.sub, fun p hp => by
  obtain ⟨q, hq, e, k⟩ := h p hp
  obtain ⟨v, l, r⟩ := f.E.at' q hq
  exact ⟨v, e ▸ l, k v r⟩⟩, f.O, f.S, f.N, f.F, f.W⟩
theorem Fm.sayK {a : Addr} {k k' : Kd} (f : Fm wr s₀ G₀ env ρ ((a, k) :: os) s G) (h : ∀ o, k.ok G o → k'.ok G o) : Fm wr s₀ G₀ env ρ ((a, k') :: os) s G := by
 refine ⟨f.K, f.E, f.O, fun p hp => ?_, f.N, f.F, f.W⟩
 rcases List.mem_cons.mp hp with rfl | hp
 · obtain ⟨g, n, o, e, q⟩ := f.S _ (.head _)
   exact ⟨g, n, o, e, h o q⟩
 · exact f.S p (.tail _ hp)
theorem Fm.fixAll : ∀ {os₁ : List (Addr × Kd)} {G : Mem}, Fm wr s₀ G₀ env ρ (os₁ ++ os) s G → (∀ p ∈ os₁, p.1 ∉ wr) → ∃ G', Fm wr s₀ G₀ env ρ os s G' ∧ Le G G' ∧ ∀ p ∈ os₁, ∃ o, G' p.1 = some o ∧ p.2.ok G' o
 | [], G, f, _ => ⟨G, f, fun ux ux e => e, fun p hp => by cases hp⟩
 | p :: os₁, G, f, h => by
   obtain ⟨G₁, f₁, le₁, o₁, e₁, k₁⟩ := Fm.fix (k := p.2) (a := p.1) (os := os₁ ++ os) f (h p (.head _))
   obtain ⟨G₂, f₂, le₂, h₂⟩ := Fm.fixAll f₁ fun q hq => h q (.tail _ hq)
   refine ⟨G₂, f₂, le₁.tr le₂, fun q hq => ?_⟩
   rcases List.mem_cons.mp hq with rfl | hq
   · exact ⟨o₁, le₂ _ _ e₁, k₁.mono le₂⟩
   · exact h₂ q hq
noncomputable def TupX (M : Model) (A : Around) (wr : List Addr) (s₀ : Shared) (G₀ : Mem) (env : Env) (elts : List Expr) (stm : List Stmt) (Q : Flow → Shared → Prop) (E : Value → Shared → Prop) : Value → Shared → Prop := fun v s₁ => ∃ G₁ ρ₁ os₁ ρ' ds, (assignEach elts env).length = ds.length ∧ Fm wr s₀ G₀ env ρ₁ os₁ s₁ G₁ ∧ Rp G₁ (.t ds) v ∧ gS M A ((assignEach elts env).map (·.2)) ds env ρ₁ ρ' ∧ ∀ s', Fm wr s₀ G₀ env ρ' os₁ s' G₁ → wpAny M A (execs stm env) Q E s'
theorem mJ {M : Model} {elts : List Expr} {stm : List Stmt} {Q : Flow → Shared → Prop} {E : Value → Shared → Prop} {v : Value} {ds : List D} (f : Fm wr s₀ G₀ env ρ os s G) (r : Rp G (.t ds) v) (hs : gS M A ((assignEach elts env).map (·.2)) ds env ρ ρ') (k : ∀ s', Fm wr s₀ G₀ env ρ' os s' G → wpAny M A (execs stm env) Q E s') (hl : (assignEach elts env).length = ds.length := by rfl) : TupX M A wr s₀ G₀ env elts stm Q E v s := ⟨_, _, _, _, _, hl, f, r, hs, k⟩
theorem nt {elts : List Expr} {k : Nat} {tp pos : Pos} {value : Expr} {Q : Flow → Shared → Prop} {E : Value → Shared → Prop} (hh : A.handled = none)
 (h : wpAny (model prog w) A (eval value env) (TupX (model prog w) A wr s₀ G₀ env elts stm Q E) E s)
 (hstar : (assignEach elts env).findIdx? (·.1) = none := by rfl)
 (hsw : swapsWithSole [.Tuple elts k tp] value pos.line env = pure false := by rfl)
 (hw : swappedStores [.Tuple elts k tp] value env = pure none := by rfl) : wpAny (model prog w) A (execs (.Assign [.Tuple elts k tp] value pos :: stm) env) Q E s := by
 refine wpAny_execs_cons (Assign_Tuple (wpAny_mono h (fun v s₁ h₁ => ?_) fun ux ux e => e) hsw hw)
 obtain ⟨G₁, ρ₁, os₁, ρ', ds, hl, f, r, ha, hc⟩ := h₁
 obtain ⟨a, its, rfl, ht, hsz, q⟩ := bW f.E.sub r
 refine wpAny_assign_Tuple hh ht (by erw [hl, hsz]) hstar fun h' hx => ?_
 have K : Kp s₁ G₁ { s₁ with heap := h' } G₁ := aW (tk := s₁.toks) f.E.sub fun b o e => hx b o (fun z => by rw [z, aq] at e; cases e) e
 exact ha _ _ _ _ _ _ _ _ _ (f.go K) q fun s₂ f₂ => hc s₂ f₂
theorem mV {G₁ : Mem} : ∀ {ds : List D} {vs : List Value}, RpL G₁ ds vs → RpL G₁ ds.reverse vs.reverse
 | [], vs, r => by have r : vs = [] := r; subst r; exact rfl
 | d :: ds, vs, ⟨v, r, e, rv, rr⟩ => by
   subst e
   erw [List.reverse_cons, List.reverse_cons]
   exact RpL.append (mV rr) (RpL.one rv)
noncomputable def TupQ (M : Model) (A : Around) (wr : List Addr) (s₀ : Shared) (G₀ : Mem) (env : Env) (names : List Str) (rest : List Stmt) (Q : Flow → Shared → Prop) (E : Value → Shared → Prop) : Value → Shared → Prop := fun v s₁ => ∃ G₁ ρ₁ os₁ ρ' ds, names.length = ds.length ∧ Fm wr s₀ G₀ env ρ₁ os₁ s₁ G₁ ∧ Rp G₁ (.t ds) v ∧ gS M A (names.reverse.map fun n => bindName env n) ds.reverse env ρ₁ ρ' ∧ ∀ s', Fm wr s₀ G₀ env ρ' os₁ s' G₁ → wpAny M A (execs rest env) Q E s'
theorem jN {M : Model} {names : List Str} {stm : List Stmt} {Q : Flow → Shared → Prop} {E : Value → Shared → Prop} {v : Value} {ds : List D} (f : Fm wr s₀ G₀ env ρ os s G) (r : Rp G (.t ds) v) (hs : gS M A (names.reverse.map fun n => bindName env n) ds.reverse env ρ ρ') (k : ∀ s', Fm wr s₀ G₀ env ρ' os s' G → wpAny M A (execs stm env) Q E s') (hl : names.length = ds.length := by rfl) : TupQ M A wr s₀ G₀ env names stm Q E v s := ⟨_, _, _, _, _, hl, f, r, hs, k⟩
theorem dy {elts : List Expr} {k : Nat} {tp pos : Pos} {value : Expr} {names : List Str} {Q : Flow → Shared → Prop} {E : Value → Shared → Prop} (hh : A.handled = none)
 (h : wpAny (model prog w) A (eval value env) (TupQ (model prog w) A wr s₀ G₀ env names stm Q E) E s)
 (hsw : swapsWithSole [.Tuple elts k tp] value pos.line env = pure false := by rfl)
 (hw : swappedStores [.Tuple elts k tp] value env = pure (some names) := by rfl) : wpAny (model prog w) A (execs (.Assign [.Tuple elts k tp] value pos :: stm) env) Q E s := by
 refine wpAny_execs_cons (Assign_Tuple_swapped (wpAny_mono h (fun v s₁ h₁ => ?_) fun ux ux e => e) hsw hw)
 obtain ⟨G₁, ρ₁, os₁, ρ', ds, hl, f, r, ha, hc⟩ := h₁
 obtain ⟨a, its, rfl, ht, hsz, q⟩ := bW f.E.sub r
 erw [hl, ← hsz]
 refine unpackItems_tuple hh ht fun h' hx => ?_
 have K : Kp s₁ G₁ { s₁ with heap := h' } G₁ := aW (tk := s₁.toks) f.E.sub fun b o e => hx b o (fun z => by rw [z, aq] at e; cases e) e
 exact ha _ _ _ _ _ _ _ _ _ (f.go K) (mV q) fun s₂ f₂ => hc s₂ f₂
theorem cj {x : Str} {p pos : Pos} {a : Addr} {e : Expr} {es : List Expr} {kws : List Keyword} {kn : List Str} {dF : D} {ds kds : List D} {o : Obj} {fd : FuncData} {Q : Value → Shared → Prop} {E : Value → Shared → Prop} (f : Fm wr s₀ G₀ env ρ os s G) (hf : (x, dF) ∈ ρ) (hv : ∀ G v, Rp G dF v → v = .ref a)
 (ho : ∀ s' G', Fm wr s₀ G₀ env ρ os s' G' → s'.heap.get? a = some o) (hd : o.data = .func fd) (ha : EvL (model prog w) A env ρ (e :: es) ds) (hkw : EvK (model prog w) A env ρ kws kds)
 (hc : ∀ s' G' vs ks, Fm wr s₀ G₀ env ρ os s' G' → Le G G' → RpL G' ds vs → RpL G' kds ks → wpAny (model prog w) A (call (.ref a) vs (kn.zip ks)) Q E s')
 (hall : ∀ pos, (backToKw pos (keywordEach kws env)).all (·.1.isSome) = true := by intro _; rfl) (hkn : ∀ pos, (backToKw pos (keywordEach kws env)).filterMap (·.1) = kn := by intro _; rfl)
 (hx : (x == ("__debug__" : Str)) = false := by decide) (hk : (env.kindOf x).isSome = true := by rfl) (he : starEach (e :: es) env = (false, eval e env) :: starEach es env := by rfl) : wpAny (model prog w) A (eval (.Call (.Name x p) (e :: es) kws pos) env) Q E s := by
 refine wpAny_Call_Name_kw (az f hf (fun fv s₁ G₁ f₁ le₁ r => ?_) hx hk)
 obtain rfl : _ := hv _ _ r
 refine callWith_function_kw (o := o) (fd := fd) (evalArgs_kw2 (hall pos) (ha pos s₁ G₁ _ _ f₁.E fun vs s₂ G₂ k₂ r₂ => hkw pos s₂ G₂ _ _ (f₁.go k₂).E fun ks s₃ G₃ k₃ r₃ => ?_) he)
 have f₃ := (f₁.go k₂).go k₃
 refine ⟨⟨ho _ _ f₃, hd⟩, ?_⟩
 erw [hkn pos]
 exact hc s₃ G₃ vs ks f₃ ((le₁.tr k₂.le).tr k₃.le) (r₂.mono k₃.le) r₃
theorem fU {value slice : Expr} {pos : Pos} {a : Addr} {ds : List D} {k : Int} {d : D} (hv : EvF (model prog w) A wr s₀ G₀ env ρ os value (.v (.ref a)) os₁) (hi : Ev (model prog w) A env ρ slice (.i k)) (hm : (a, Kd.l ds) ∈ os₁) (h1 : -(ds.length : Int) ≤ k) (hk : k < 2 ^ 62) (hsz : ds.length ≤ 1000000)
 (hx : ds[(if k < 0 then k + ds.length else k).toNat]? = some d)
 (hs : ∀ o u, subscripted slice false (.ref o) (.int k u) = operate [.ref o, .int k u] (getItem (.ref o) (.int k u)) := by intro _ _; with_unfolding_all rfl) :
 EvF (model prog w) A wr s₀ G₀ env ρ os (.Subscript value slice pos) d os₁ := by
 intro s G Q E f hQ
 refine Subscript_ (hv s G _ _ f fun o s₁ G₁ f₁ le₁ r₁ => hi s₁ G₁ _ _ f₁.E fun i s₂ G₂ k₂ r₂ => ?_)
 obtain ⟨u, rfl⟩ := r₂
 obtain rfl : o = .ref a := r₁
 have f₂ := f₁.go k₂
 obtain ⟨g, na, ob, e, vs, n, rfl, r⟩ := f₂.S _ hm
 obtain ⟨x, hx', rx⟩ := r.get hx
 have hlen : vs.size = ds.length := by have := r.length; simpa using this
 have hl : s₂.heap.IsList a vs := ⟨_, e, rfl, _, rfl⟩
 refine kba_turn (value' := PySem.Expr.Name (PySem.Str.ofString "_") ⟨0, 0, 0, 0⟩) (fun ux => rfl) ?_
 have fin := hQ x s₂ G₂ f₂ (le₁.tr k₂.le) rx
 by_cases h0 : k < 0
 · rw [if_pos h0] at hx'
   exact subscriptTail_builtin hl.typeIs slot_list_getitem.lookup (wpAny_getItem_list_neg hl h0 (by erw [hlen]; exact h1) (by lia) (by erw [hlen]; simpa using hx') fin) (hs _ _) (fun ux => rfl)
 · rw [if_neg h0] at hx'
   exact item_list hl (by lia) (by lia) (by simpa using hx') fin (hs _ _) (fun ux => rfl)
theorem om {test body orelse : Expr} {pos : Pos} {c : Bool} {d : D} (ht : ow (model prog w) A wr s₀ G₀ env ρ os test c os₁) (ha : c = true → EvF (model prog w) A wr s₀ G₀ env ρ os₁ body d os₂) (hb : c = false → EvF (model prog w) A wr s₀ G₀ env ρ os₁ orelse d os₂) :
 EvF (model prog w) A wr s₀ G₀ env ρ os (.IfExp test body orelse pos) d os₂ := by
 intro s G Q E f hQ
 refine IfExp_ (ht s G _ _ f fun s₁ G₁ f₁ le₁ => ?_)
 cases c with
 | true => exact ha rfl s₁ G₁ _ _ f₁ fun v s₂ G₂ f₂ le₂ r => hQ v s₂ G₂ f₂ (le₁.tr le₂) r
 | false => exact hb rfl s₁ G₁ _ _ f₁ fun v s₂ G₂ f₂ le₂ r => hQ v s₂ G₂ f₂ (le₁.tr le₂) r
theorem e8 {e : Expr} {pos : Pos} (h : EvF (model prog w) A wr s₀ G₀ env ρ os e (.b true) os₁) : EvF (model prog w) A wr s₀ G₀ env ρ os (.BoolOp .And [e] pos) (.b true) os₁ := fun s G Q E f hQ => BoolOp_one (h s G Q E f hQ)
theorem mM {e e₂ : Expr} {es : List Expr} {pos : Pos} (h : EvF (model prog w) A wr s₀ G₀ env ρ os e (.b true) os₁) (hr : EvF (model prog w) A wr s₀ G₀ env ρ os₁ (.BoolOp .And (e₂ :: es) pos) (.b true) os₂) : EvF (model prog w) A wr s₀ G₀ env ρ os (.BoolOp .And (e :: e₂ :: es) pos) (.b true) os₂ := by
 intro s G Q E f hQ
 refine BoolOp_and (h s G _ _ f fun v s₁ G₁ f₁ le₁ r => ?_)
 obtain rfl : v = .bool true := r
 refine wpAny_truthy_bool ?_
 erw [if_pos rfl]
 exact hr s₁ G₁ _ _ f₁ fun v s₂ G₂ f₂ le₂ r => hQ v s₂ G₂ f₂ (le₁.tr le₂) r
theorem evf_cmp {l r : Expr} {op : CmpOp} {pos : Pos} {da db d : D} (ha : EvF (model prog w) A wr s₀ G₀ env ρ os l da os₁) (hb : EvF (model prog w) A wr s₀ G₀ env ρ os₁ r db os₂)
 (ho : ∀ (s : Shared) (G : Mem) (Q E : Value → Shared → Prop) (a b : Value), Fm wr s₀ G₀ env ρ os₂ s G → Rp G da a → Rp G db b → (∀ v s' G', Fm wr s₀ G₀ env ρ os₂ s' G' → Le G G' → Rp G' d v → Q v s') → wpAny (model prog w) A (compareOp op a b) Q E s)
 (hm : behindInMarks op r = false := by with_unfolding_all rfl) : EvF (model prog w) A wr s₀ G₀ env ρ os (.Compare l [op] [r] pos) d os₂ := by
 intro s G Q E f hQ
 exact wpAny_Compare1 (ha s G _ _ f fun a s₁ G₁ f₁ le₁ ra => hb s₁ G₁ _ _ f₁ fun b s₂ G₂ f₂ le₂ rb => ho s₂ G₂ _ _ a b f₂ (ra.mono le₂) rb fun v s₃ G₃ f₃ le₃ r => hQ v s₃ G₃ f₃ ((le₁.tr le₂).tr le₃) r) hm
theorem dm {op : CmpOp} {da db d : D} (h : Cmp (model prog w) A op da db d) : ∀ (s : Shared) (G : Mem) (Q E : Value → Shared → Prop) (a b : Value), Fm wr s₀ G₀ env ρ os s G → Rp G da a → Rp G db b → (∀ v s' G', Fm wr s₀ G₀ env ρ os s' G' → Le G G' → Rp G' d v → Q v s') → wpAny (model prog w) A (compareOp op a b) Q E s :=
 fun s G Q E a b f ra rb hQ => h s G Q E a b f.E.sub ra rb fun v s' G' k r => hQ v s' G' (f.go k) k.le r
theorem kW {a : Addr} : Cmp (model prog w) A .Is (.v (.ref a)) (.v (.ref a)) (.b true) := by
 rintro s G Q E _ _ hG rfl rfl hQ
 exact wpAny_is_ref_self (hQ _ _ _ (Kp.rf hG) rfl)
theorem dE {a b : Bool} : Cmp (model prog w) A .Is (.b a) (.b b) (.b (a == b)) := by
 rintro s G Q E _ _ hG rfl rfl hQ
 refine wpAny_is_plain rfl (hQ _ _ _ (Kp.rf hG) ?_)
 cases a <;> cases b <;> rfl
end
section
variable {prog : Program} {w : World} {A : Around} {wr : List Addr} {s₀ s s' : Shared} {G₀ G G' : Mem} {env : Env} {ρ ρ' ρ₁ : List (Str × D)} {os os' os₁ os₂ rest : List (Addr × Kd)} {stm : List Stmt}
theorem nU {es : List Expr} {kc} {tp : Pos} {I a : Addr} {i : Nat} {v : Value} {Q : Unit → Shared → Prop} {E : Value → Shared → Prop} (h : s.heap.IsTupleIter I a i) (hq : Q () s) : wpAny (model prog w) A (letOwnedTupleGo (.Tuple es kc tp) (.ref I) v) Q E s := by
 obtain ⟨o, e, hc, hd⟩ := h
 cases v with
 | ref b =>
   show wpAny _ _ (load I >>= _) _ _ _
   refine wpAny_bind (wpAny_load e ?_)
   erw [hc, hd]
   dsimp only
   erw [if_neg (by simp)]
   exact wpAny_pure hq
 | _ => exact wpAny_pure hq
theorem my {es : List Expr} {kc} {tp : Pos} {xs : List D} {v : Value} {Q E : Value → Shared → Prop} (hh : A.handled = none) (hG : In G s.heap) (r : Rp G (.t xs) v)
 (hQ : ∀ I wi St s', Kp s G s' G → (∀ b ∈ wi, s.heap.get? b = none ∧ G b = none) → Wk prog w A (.Tuple es kc tp) G I wi xs St → St 0 s'.heap → Q (.ref I) s') : wpAny (model prog w) A (pyIter v) Q E s := by
 obtain ⟨a, vs, o, k, rfl, g, hc, ho, q⟩ := r
 have hl : s.heap.IsTuple a vs := ⟨o, hG _ _ g, hc, _, ho⟩
 have hsz : vs.size = xs.length := by have := q.length; simpa using this
 refine wpAny_pyIter_tuple hl ?_
 have K := aW (tk := s.toks) hG (h' := s.heap.push { cls := .type "tuple_iterator", data := .fields #[.ref a, .int 0 0] }) fun b o e => Heap.get?_push_of_some _ e
 have fr := aq s.heap
 have ne : a ≠ s.heap.objs.size := fun q => by have := hG _ _ g; rw [q, fr] at this; cases this
 have lv : ∀ (i : Nat) (h : Heap), h.IsTupleIter s.heap.objs.size a i ∧ h.IsTuple a vs → ∀ b ∈ [s.heap.objs.size], ∃ o, h.get? b = some o := fun i h st b hb => by
  erw [List.mem_singleton.mp hb]; obtain ⟨⟨o, e, _⟩, _⟩ := st; exact ⟨o, e⟩
 have hGk : ∀ b ∈ [s.heap.objs.size, a], b ∉ [s.heap.objs.size] → ∃ o, G b = some o := fun b hb hn => by
  rcases List.mem_cons.mp hb with q | q
  · exact absurd (by erw [q]; exact .head _) hn
  · erw [List.mem_singleton.mp q]; exact ⟨o, g⟩
 have W := Walks.tuple (prog := prog) (w := w) (A := A) hh s.heap.objs.size a ne vs
 refine hQ s.heap.objs.size [s.heap.objs.size] (StG G [s.heap.objs.size] fun i h => h.IsTupleIter s.heap.objs.size a i ∧ h.IsTuple a vs) _ K (fun b hb => ?_) ⟨fun i h h' st hk => st.frame hk, fun i h st => st.1, fun i d s G' Q E hd hle hin hw st hQ => ?_, fun s G' Q E hle hin hw st hQ => ?_, fun i s G' Q E hle hin st hq => ?_⟩ (dL W.frame lv hGk ?_ K.sub)
 · erw [List.mem_singleton.mp hb]
   exact ⟨fr, ai hG fr⟩
 · have hin₀ : In G s.heap := fun b o e => hin b o (hle b o e)
   have hlt : i < vs.size := by erw [hsz]; exact (List.getElem?_eq_some_iff.mp hd).1
   refine W.item i s _ _ hlt (st.st hin₀) fun v h' tk hp st' hk => ?_
   have K : KpB [_] s G' { s with heap := h', toks := tk } G' := eJ hin hw hk
   have rv : Rp G d v := by
    obtain ⟨v', hv, rv⟩ := q.get hd
    have : vs[i]? = some v' := by simpa using hv
    rw [this] at hp; cases hp
    exact rv
   refine nU st'.1 ?_
   exact hQ v _ G' K hw (rv.mono hle) (dL W.frame lv hGk st' fun b o e => K.sub b o (hle b o e))
 · have hin₀ : In G s.heap := fun b o e => hin b o (hle b o e)
   exact W.done s _ _ (by erw [hsz]; exact st.st hin₀) fun h' tk hk => hQ _ (eJ hin hw hk)
 · exact W.self i s Q E (st.st fun b o e => hin b o (hle b o e)) hq
 · exact ⟨⟨_, Heap.get?_push_size _ rfl, rfl, rfl⟩, ⟨o, Heap.get?_push_of_some _ (hG _ _ g), hc, _, ho⟩⟩
theorem on {es : List Expr} {kc} {tp : Pos} {body orelse : List Stmt} {pos : Pos} {xs : List D} {Q : Flow → Shared → Prop} {E : Value → Shared → Prop} (Inv : Nat → List (Str × D) → List (Addr × Kd) → Prop) (hh : A.handled = none)
 {v : Value} (f : Fm wr s₀ G₀ env ρ os s G) (rv : Rp G (.t xs) v) (h0 : Inv 0 ρ os)
 (turn : ∀ i d ρi osi, xs[i]? = some d → Inv i ρi osi → ∃ ρ₁, Asg (model prog w) A (.Tuple es kc tp) d env ρi ρ₁ ∧ ∀ (wr : List Addr) (s₀ : Shared) (G₀ : Mem) (s : Shared) (G : Mem) (E' : Value → Shared → Prop), Fm wr s₀ G₀ env ρ₁ osi s G →
  wpAny (model prog w) A (execs body env) (mR (Inv (i + 1)) (fun ux ux => False) (fun ux ux ux => False) wr s₀ G₀ env) E' s)
 (hend : ∀ ρ' os' s' G' E', Inv xs.length ρ' os' → Fm wr s₀ G₀ env ρ' os' s' G' → wpAny (model prog w) A (execs orelse env) (dC (model prog w) A env stm Q E) E' s') :
 wpAny (model prog w) A (pyIter v) (fun it s₂ => codeAny (model prog w) A (.forLoop (.Tuple es kc tp) it body orelse env) (loopR (model prog w) A env stm Q E) s₂) E s :=
 my hh f.E.sub rv fun I wi St s₂ k₂ hwi W hst => lx Inv (fun ux ux => False) (fun ux ux ux => False) (fun ux ux => False) (fun ux ux ux ux ux => False) f k₂ hwi W hst h0 (fun i d ρi osi hd hi => let ⟨ρ₁, a, b⟩ := turn i d ρi osi hd hi; ⟨ρ₁, a, fun wr s₀ G₀ s G E' ux f => b wr s₀ G₀ s G E' f⟩) hend (fun ux ux ux ux h => h.elim) (fun ux ux ux ux ux ux h => h.elim) (fun ux ux ux ux ux ux ux ux ux ux ux h => h.elim)
theorem cl_str {a : Int} (ha : a.natAbs.log2 < 1920) : Cl (model prog w) A (.type "str") [.i a] (.s (Str.ofString (toString a))) := by
 rintro s G Q E vs hG ⟨v, r, rfl, ⟨t, rfl⟩, rfl⟩ hQ
 exact P.str_of_int ha (hQ _ _ _ (Kp.tok hG _) ⟨_, rfl⟩)
theorem qZ {x y : Str} (hsz : x.length + y.length ≤ sizeLine) : Op2 (model prog w) A .Add (.s x) (.s y) (.s (x ++ y)) := by
 rintro s G Q E _ _ hG ⟨t, rfl⟩ ⟨u, rfl⟩ hQ
 exact PyProof.Rows.add_str (hsz := hsz) fun t' tk => hQ _ _ _ (Kp.tok hG _) ⟨_, rfl⟩
inductive EvD (M : Model) (A : Around) (env : Env) (ρ : List (Str × D)) : List (Option Expr) → List Expr → List (Str × D) → Prop
 | nil : EvD M A env ρ [] [] []
 | cons {x : Str} {kk : Nat} {p : Pos} {ve : Expr} {d : D} {ks : List (Option Expr)} {vs : List Expr} {ds : List (Str × D)} (h : Ev M A env ρ ve d) (r : EvD M A env ρ ks vs ds) : EvD M A env ρ (some (.Constant (.str x) kk p) :: ks) (ve :: vs) ((x, d) :: ds)
theorem evd_prs {pos : Pos} {ks : List (Option Expr)} {vs : List Expr} {ds : List (Str × D)} (h : EvD (model prog w) A env ρ ks vs ds) : ∃ prs, nZ (model prog w) A env ρ pos prs ds ∧ (evalEachOpt ks env).zip ((evalEach vs env).map fun v => do let x ← v; standAt pos; pure x) = prs.map (fun p => (some p.1, p.2)) ∧ prs.length = ds.length := by
 induction h with
 | nil => exact ⟨[], .nil, rfl, rfl⟩
 | @cons x kk p ve d ks vs ds h r ih =>
   obtain ⟨prs, a, b, c⟩ := ih
   refine ⟨_, .cons (x := x) (kk := kk) (p := p) h a, ?_, by erw [List.length_cons, List.length_cons, c]⟩
   erw [List.map_cons, ← b]
   rfl
theorem cZ {keys : List (Option Expr)} {values : List Expr} {pos : Pos} {ds : List (Str × D)} {Q E : Value → Shared → Prop} (f : Fm wr s₀ G₀ env ρ os s G) (hp : EvD (model prog w) A env ρ keys values ds) (h0 : ds.length ≠ 0) (hlen : ds.length ≤ 15) (hb : (s.heap.objs.size == sysModules) = false)
 (h : ∀ s' G' a, Fm wr s₀ G₀ env ρ ((a, Kd.d prog w (aD [] ds)) :: os) s' G' → Le G G' → a ∉ wr → (a == sysModules) = false → Q (.ref a) s') : wpAny (model prog w) A (eval (.Dict keys values pos) env) Q E s := by
 obtain ⟨prs, a, b, c⟩ := evd_prs (pos := pos) hp
 refine qv f a b (fun q => h0 (by rw [← c, q]; rfl)) (by lia) hb h
end
set_option tactic.hygienic false
section
variable {prog : Program} {w : World} {A : Around} {wr : List Addr} {s₀ s s' : Shared} {G₀ G G' : Mem} {env : Env} {ρ ρ' ρ₁ : List (Str × D)} {os os' os₁ os₂ rest : List (Addr × Kd)} {stm : List Stmt}
theorem aZ {o : Expr} {attr : Str} {pos : Pos} {Gs : Mem} {a : Addr} {m : Str → Option Value} {v : Value} {dd : D} (ho : Ev (model prog w) A env ρ o (.g Gs (.ref a))) (hF : Fn Gs a m) (hm : m attr = some v) (hmiss : gx attr = true) (hv : ∀ id, v ≠ .builtin id) (hd : ∀ G, Le Gs G → Rp G dd v)
 (he : eval (.Attribute o attr pos) env = (do
  let ov ← eval o env
  standAt pos.atName
  let r ← holding [ov] (getAttr ov attr true)
  letTemporaryGo o ov r
  pure r) := by with_unfolding_all rfl) : Ev (model prog w) A env ρ (.Attribute o attr pos) dd := by
 intro s G Q E hE hQ
 refine Attribute_any_ (ho s G _ _ hE fun ov s₁ G₁ k₁ r => ?_) he
 obtain ⟨rfl, le⟩ := r
 obtain ⟨fd, sl, d, od, h1, h2, h3⟩ := hF
 refine mm (k₁.sub _ _ (le _ _ h1)) (h3.ns1 (k₁.sub _ _ (le _ _ h2))).ns (cR hmiss) hm hv fun tk => ?_
 exact hQ v _ G₁ (k₁.tr (Kp.tok k₁.sub tk)) (hd _ le)
theorem gv {x : Str} {t : Tok} : ∀ id, Value.str x t ≠ .builtin id := by intro id; simp
theorem dJ {a : Addr} : ∀ id, Value.ref a ≠ .builtin id := by intro id; simp
end
noncomputable def ey (prog : Program) (w : World) (a : Addr) (r : Bool) (base : Heap) : Prop := ∀ (A' : Around) (s : Shared) (u : Tok) (Q E : Value → Shared → Prop), A'.handled = none → (∀ b o, base.get? b = some o → s.heap.get? b = some o) →
 (∀ h' tk, (∀ b o, s.heap.get? b = some o → h'.get? b = some o) → Q (.bool r) { s with heap := h', toks := tk }) → wpAny (model prog w) A' (call (.builtin "hasattr") [.ref a, .str ("tag":Str) u]) Q E s
theorem rq {prog : Program} {w : World} {a d : Addr} {fd : FuncData} {sl : Array (Option Value)} {m : Str → Option Value} {x : Str} {t : Tok} {base : Heap} (hx : base.get? a = some (bR (some d) fd sl)) (hn : base.Ns d m) (hm : m ("tag":Str) = some (.str x t)) : ey prog w a true base :=
 fun A' s u Q E ux k hq => mu (k _ _ hx) (hn.keeps k) (cR (by decide +kernel)) hm gv (by have := hq s.heap s.toks fun ux ux e => e; exact this)
theorem iY : (["__module__", "__name__", "__qualname__", "__doc__", "__annotations__"] : List Str).contains ("tag":Str) = false := by decide +kernel
theorem jH : ("tag":Str).length + 100 ≤ sizeLine := by erw [sizeLine_eq]; decide +kernel
theorem oO {prog : Program} {w : World} {a d : Addr} {fd : FuncData} {sl : Array (Option Value)} {m : Str → Option Value} {base : Heap} (hx : base.get? a = some (bR (some d) fd sl)) (hn : base.Ns d m) (hm : m ("tag":Str) = none) : ey prog w a false base :=
 fun A' s u Q E hA k hq => i5 (k _ _ hx) (hn.keeps k) (cR (by decide +kernel)) hm iY jH hA fun h' tk hk => hq h' tk hk
theorem pF {prog : Program} {w : World} {a : Addr} {xs : Array Value} {k : Nat} {sl : Array (Option Value)} {base : Heap} (hx : base.get? a = some ⟨.type "list", none, .seq xs k, sl⟩) : ey prog w a false base :=
 fun A' s u Q E hA k hq => jR (k _ _ hx) (am_miss_of_fast (by decide +kernel)) iY jH hA fun h' tk hk => hq h' tk hk
theorem qL {prog : Program} {w : World} {a : Addr} {es : Array DictEntry} {k : Nat} {sl : Array (Option Value)} {base : Heap} (hx : base.get? a = some ⟨.type "dict", none, .dict es k, sl⟩) : ey prog w a false base :=
 fun A' s u Q E hA k hq => j6 (k _ _ hx) (am_miss_of_fast (by decide +kernel)) iY jH hA fun h' tk hk => hq h' tk hk
set_option maxRecDepth 100000 in
set_option maxHeartbeats 4000000 in
theorem jx {w : World} {A : Around} {g : Heap} {p : Program} {loose : List Str} {mean : ExcName → Option Value} {mg mb : Str → Option Value} (X : (hd.heap_39 w.params).In g) (T : Top p loose mean mg mb g) (hA : A.handled = none) (hroom : A.depth < recursionLimit)
 {s : Shared} {G : Mem} {Q E : Value → Shared → Prop} {vs : List Value} {a : Addr} {r : Bool} (hin : In G s.heap) (hle : Le g.get? G) (hvs : RpL G [.v (.ref a)] vs) (hH : ey Challenge.rw_wb0032_01.row.prog w a r s.heap)
 (hQ : Out s G (.b r) Q) : wpAny (model Challenge.rw_wb0032_01.row.prog w) A (call (.ref 54) vs) Q E s := by
 refine k_v (Z := fun vs => wpAny _ _ (call _ vs _) _ _ _) hvs ?_
 revert X
 k_fill
 intro X
 k_dflt (refine' bo (os := []) (ρ := [(("element":Str), .v (.ref a)), ("hasattr", .v (.builtin "hasattr"))]) X T hroom hin hle ?ho ?hcd ?hbody ?hbind ?hclo ?hkind ?hnd ?gl ?bu ?hos ?hod ?hρ ?hrun ?hco ?hgen ?hk; ((case ho | hcd => k_is); (case hnd => decide +kernel); (case hbody | hclo | gl | bu | hco | hgen | hk => exact rfl)); (case hbind => exact BindsTo.of_eq rfl); (case hkind => exact rfl); (case hos => exact List.forall_mem_nil _); (case hod => exact List.nodup_nil))
 case hρ =>
  intro h L hn hc hg hb
  repeat' first | exact List.forall_mem_nil _ | with_reducible refine aM ?_ ?_
  · exact al hn rfl rfl rfl rfl
  · exact aB hg hb rfl rfl rfl (mg_none_of X T.g (by k_is)) ((T.builtins _ (by decide)).trans (by decide +kernel))
 case hrun =>
  intro s₁ L f₁
  refine cp fun E' => ?_
  refine wpAny_execs_cons (wpAny_Return_some (Call_Name rfl (az f₁ (d := .v (.builtin "hasattr")) m1 fun v s₂ G₂ f₂ le₂ r₂ => ?_)))
  obtain rfl : v = .builtin "hasattr" := r₂
  refine callWith_method1 (eZ (ds := [.v (.ref a), .s ("tag":Str)]) f₂ (ab (aa m0) (ab aT ae)) fun vs s₃ G₃ f₃ le₃ r₃ => ?_)
  obtain ⟨v₁, _, rfl, e₁, v₂, _, rfl, ⟨u, rfl⟩, rfl⟩ := r₃
  obtain rfl : v₁ = .ref a := e₁
  refine hH _ s₃ u _ _ hA (fun b o e => f₃.K.hp _ _ (by simp) e) fun h' tk hk => ?_
  exact hQ _ _ G₃ (f₃.kp.tr (aW f₃.E.sub hk)) rfl
set_option tactic.hygienic false
noncomputable def av : Kd := .p (fun ux o => ∃ ps, o = tabObj ps) fun ux ux ux ux h => h
section
variable {prog : Program} {w : World} {A : Around} {wr : List Addr} {s₀ s s' : Shared} {G₀ G G' : Mem} {env : Env} {ρ ρ' ρ₁ : List (Str × D)} {os os' rest : List (Addr × Kd)} {p : Program} {loose : List Str} {mean : ExcName → Option Value} {mg mb : Str → Option Value} {g : Heap}
theorem jU {c P : Addr} {params : Arguments} {body : Expr} {scope : Scope} {clos : List (Str × Addr)} {pos : Pos} {ps : Array Value} {Q E : Value → Shared → Prop} (T : Top p loose mean mg mb g) (C : CodeHd g c P) (hle : Le g.get? G) (f : Fm wr s₀ G₀ env ρ ((P, .o (tabObj ps)) :: os) s G)
 (ht : TriplesOk ps.toList) (hnf : codeAmong pos ps.toList = none) (hcl : closureFor scope env = pure clos) (hge0 : env.globals = mainGlobals) (hcode : env.code = .ref c) (hdef : defaultsOf params env = ([], []))
 (h : ∀ s' a c' ctv, Fm wr s₀ G₀ env ρ ((a, .o (kla_obj "<lambda>" (env.qual ++ "<lambda>") params body scope clos ((mg "__name__").getD .none) c' ctv)) :: (P, .o (tabObj (ps ++ #[rawInt pos.line, rawInt pos.col, .ref c']))) :: os) s' G → a ∉ wr → (s'.heap.CodeRec (.ref c') (env.qual ++ "<lambda>") ∧ s.heap.get? c' = none ∧ c' ≠ a) → Q (.ref a) s') : wpAny (model prog w) A (eval (.Lambda params body scope pos) env) Q E s := by
 obtain ⟨gP, na, o, e, rfl⟩ := f.S _ (.head _)
 have up : ∀ b o, g.get? b = some o → s.heap.get? b = some o := fun b o e => f.E.sub _ _ (hle _ _ e)
 refine kla_eval hdef ?_
 obtain ⟨hgP, hb⟩ := jA T up e
 refine kla_makeFunction (ps := ps) (mg := mg) (c := c) (P := P) hcl hge0 (T.g.keeps up) hcode (C.keeps up) e ht hnf hgP hb fun c' ctv h' tk hx hge hlt hrec htb => ?_
 have fr : s.heap.get? h'.objs.size = none := Heap.get?_none_of_le (by lia)
 have hk' : ∀ b o, b ≠ P → s.heap.get? b = some o → (h'.push (kla_obj "<lambda>" (env.qual ++ "<lambda>") params body scope clos ((mg "__name__").getD .none) c' ctv)).get? b = some o := fun b o hb e => Heap.get?_push_of_some _ (hx b o hb e)
 refine h _ _ c' ctv (f.called (os := [(P, .o (tabObj ps))]) (os' := [(h'.objs.size, .o (kla_obj "<lambda>" (env.qual ++ "<lambda>") params body scope clos ((mg "__name__").getD .none) c' ctv)), (P, .o (tabObj (ps ++ #[rawInt pos.line, rawInt pos.col, .ref c'])))]) (rest := os) ⟨⟨⟨_, tk, rfl, fun b o hb e => hk' b o (fun q => hb (by erw [q]; exact .head _)) e⟩, fun ux ux e => e, fun b o eb => hk' b o (fun q => by rw [q, gP] at eb; cases eb) (f.E.sub b o eb), fun ux ux e => .inl e⟩, ⟨?_, ?_⟩, ?_⟩ fun b hb ux => ?_) (f.notin fr) ?_
 · intro p hp
   rcases List.mem_cons.mp hp with rfl | hp
   · exact ⟨ai f.E.sub fr, _, Heap.get?_push_size _ rfl, rfl⟩
   · rw [List.mem_singleton] at hp
     subst hp
     exact ⟨gP, _, Heap.get?_push_of_some _ htb, rfl⟩
 · refine List.nodup_cons.mpr ⟨fun q => ?_, List.nodup_cons.mpr ⟨List.not_mem_nil, List.nodup_nil⟩⟩
   rw [List.map_cons, List.map_nil, List.mem_singleton] at q
   have q : h'.objs.size = P := q
   rw [q, e] at fr; cases fr
 · intro p hp
   rcases List.mem_cons.mp hp with rfl | hp
   · exact .inr fr
   · rw [List.mem_singleton] at hp
     subst hp
     exact .inl (.head _)
 · rw [List.map_cons, List.map_nil, List.mem_singleton] at hb
   erw [hb]
   exact .tail _ (.head _)
 · exact ⟨hrec.keeps fun b o e => Heap.get?_push_of_some _ e, Heap.get?_none_of_le hge, Nat.ne_of_lt hlt⟩
theorem lf {x : Str} {p pos : Pos} {a : Addr} {e : Expr} {es : List Expr} {dF : D} {o : Obj} {fd : FuncData} {Q : Value → Shared → Prop} {E : Value → Shared → Prop} (f : Fm wr s₀ G₀ env ρ os s G) (hf : (x, dF) ∈ ρ) (hv : ∀ G v, Rp G dF v → v = .ref a) {gg : Heap} (hg : gg.get? a = some o) (hd : o.data = .func fd)
 (hc : ∀ s₁ G₁, Fm wr s₀ G₀ env ρ os s₁ G₁ → Le G G₁ → wpAny (model prog w) A (spliced (backTo pos (starEach (e :: es) env))) (fun vs s₂ => s₂.heap.get? a = some o ∧ wpAny (model prog w) A (call (.ref a) vs) Q E s₂) E s₁)
 (hx : (x == ("__debug__" : Str)) = false := by decide) (hk : (env.kindOf x).isSome = true := by rfl) (he : starEach (e :: es) env = (false, eval e env) :: starEach es env := by rfl) : wpAny (model prog w) A (eval (.Call (.Name x p) (e :: es) [] pos) env) Q E s := by
 refine Call_Name rfl (az f hf (fun fv s₁ G₁ f₁ le₁ r => ?_) hx hk)
 obtain rfl : _ := hv _ _ r
 have key : wpAny (model prog w) A (evalArgs (.ref a) true (backTo pos (starEach (e :: es) env)) []) (fun x s₂ => (s₂.heap.get? a = some o ∧ o.data = .func fd) ∧ wpAny (model prog w) A (call (.ref a) ([] ++ x.pos) x.kw) Q E s₂) E s₁ := by
  have h := wpAny_mono (hc s₁ G₁ f₁ le₁) (fun vs s₂ h => (⟨⟨h.1, hd⟩, h.2⟩ : (s₂.heap.get? a = some o ∧ o.data = .func fd) ∧ wpAny (model prog w) A (call (.ref a) vs) Q E s₂)) fun ux ux e => e
  rw [he] at h ⊢
  exact evalArgs_plain h
 exact callWith_function key
end
theorem say2_same {G : Mem} {ρ : List (Str × D)} {p : Str × D} (h : p ∈ ρ) : ∃ q ∈ ρ, q.1 = p.1 ∧ ∀ v, Rp G q.2 v → Rp G p.2 v := ⟨p, h, rfl, fun ux x => x⟩
theorem say2_v {G : Mem} {ρ : List (Str × D)} {x : Str} {u : Value} (h : (x, D.v u) ∈ ρ) : ∃ q ∈ ρ, q.1 = (x, D.g G u).1 ∧ ∀ v, Rp G q.2 v → Rp G (x, D.g G u).2 v := ⟨_, h, rfl, fun ux x => ⟨x, Le.rf _⟩⟩
theorem say2_g {G Gs : Mem} {ρ : List (Str × D)} {x : Str} {u : Value} (h : (x, D.g Gs u) ∈ ρ) : ∃ q ∈ ρ, q.1 = (x, D.g G u).1 ∧ ∀ v, Rp G q.2 v → Rp G (x, D.g G u).2 v := ⟨_, h, rfl, fun ux x => ⟨x.1, Le.rf _⟩⟩
section
variable {prog : Program} {w : World} {A : Around} {wr : List Addr} {s₀ s s' : Shared} {G₀ G G' : Mem} {env : Env} {ρ ρ' ρ₁ : List (Str × D)} {os os' rest : List (Addr × Kd)}
theorem Fm.leOf {x : Str} {Gs : Mem} {u : Value} (f : Fm wr s₀ G₀ env ρ os s G) (h : (x, D.g Gs u) ∈ ρ) : Le Gs G := let ⟨_, _, r⟩ := f.E.at' _ h; r.2
theorem ld {e : Expr} {d d' : D} {os₁ : List (Addr × Kd)} (h : EvF (model prog w) A wr s₀ G₀ env ρ os e d os₁) (q : ∀ G v, Rp G d v → Rp G d' v) : EvF (model prog w) A wr s₀ G₀ env ρ os e d' os₁ := fun s G Q E f hQ => h s G Q E f fun v s' G' f' le r => hQ v s' G' f' le (q _ _ r)
end
noncomputable abbrev Fm.here {wr : List Addr} {s₀ s : Shared} {G₀ G : Mem} {env : Env} {ρ : List (Str × D)} {os : List (Addr × Kd)} (_ : Fm wr s₀ G₀ env ρ os s G) (os' : List (Addr × Kd)) (s' : Shared) (G' : Mem) : Prop := Fm wr s₀ G₀ env ρ os' s' G'
theorem Eff.fresh4 {a b c e : Addr} {k1 k2 k3 k4 k5 k6 : Kd} {s s' : Shared} {G G' : Mem} (ef : Eff [(a, k1), (b, k2)] [(a, k3), (b, k4), (c, k5), (e, k6)] s G s' G') : s.heap.get? e = none := by
 rcases ef.new (e, k6) (.tail _ (.tail _ (.tail _ (.head _)))) with h | h
 · exfalso
   have nd := ef.H.2
   simp only [List.map_cons, List.map_nil, List.nodup_cons, List.mem_cons, List.not_mem_nil, or_false, not_or] at nd
   simp only [List.map_cons, List.map_nil, List.mem_cons, List.not_mem_nil, or_false] at h
   rcases h with h | h
   · exact nd.1.2.2 h.symm
   · exact nd.2.1.2 h.symm
 · exact h
theorem nJ {prog : Program} {w : World} {A : Around} {env : Env} {ρ : List (Str × D)} {e : Expr} {d d' : D} (h : Ev (model prog w) A env ρ e d) (q : ∀ G v, Rp G d v → Rp G d' v) : Ev (model prog w) A env ρ e d' := fun s G Q E hE hQ => h s G Q E hE fun v s' G' k r => hQ v s' G' k (q _ _ r)
section
variable {prog : Program} {w : World} {A : Around} {wr : List Addr} {s₀ s s' : Shared} {G₀ G G' : Mem} {env : Env} {ρ ρ' ρ₁ : List (Str × D)} {os os' rest : List (Addr × Kd)}
theorem bU {e e₂ : Expr} {es : List Expr} {pos : Pos} (h : EvF (model prog w) A wr s₀ G₀ env ρ os e (.b true) os) (hr : EvF (model prog w) A wr s₀ G₀ env ρ os (.BoolOp .And (e₂ :: es) pos) (.b true) os) : EvF (model prog w) A wr s₀ G₀ env ρ os (.BoolOp .And (e :: e₂ :: es) pos) (.b true) os := mM h hr
theorem bX {l r : Expr} {op : CmpOp} {pos : Pos} {da db d : D} (ha : EvF (model prog w) A wr s₀ G₀ env ρ os l da os) (hb : EvF (model prog w) A wr s₀ G₀ env ρ os r db os)
 (ho : ∀ (s : Shared) (G : Mem) (Q E : Value → Shared → Prop) (a b : Value), Fm wr s₀ G₀ env ρ os s G → Rp G da a → Rp G db b → (∀ v s' G', Fm wr s₀ G₀ env ρ os s' G' → Le G G' → Rp G' d v → Q v s') → wpAny (model prog w) A (compareOp op a b) Q E s)
 (hm : behindInMarks op r = false := by with_unfolding_all rfl) : EvF (model prog w) A wr s₀ G₀ env ρ os (.Compare l [op] [r] pos) d os := evf_cmp ha hb ho hm
theorem kl_ne {a b : Addr} {ds : List D} {P : Mem → Obj → Prop} {h : ∀ G G' o, Le G G' → P G o → P G' o} : (a, Kd.l ds) ≠ (b, Kd.p P h) := fun q => by cases q
end
set_option tactic.hygienic false
noncomputable def co (par : Nat → Nat) (i j : Nat) : List Nat := (List.range i).filter fun k => decide (1 ≤ k) && (par k == j)
noncomputable def inK (par : Nat → Nat) (i : Nat) (fs : Nat → Addr) (j : Nat) : Kd := .l ((co par i j).map fun k => .v (.ref (fs k)))
noncomputable def inn (par : Nat → Nat) (i : Nat) (fs Ls : Nat → Addr) : List (Addr × Kd) := (List.range i).map fun j => (Ls j, inK par i fs j)
noncomputable def bkK (i : Nat) (fs : Nat → Addr) : Kd := .l (if i = 0 then [] else [.v (.ref (fs 0))])
noncomputable def bK (fs : Nat → Addr) (i : Nat) (a : Addr) : Nat → Addr := fun k => if k = i then a else fs k
theorem cC (fs : Nat → Addr) (i : Nat) (a : Addr) : bK fs i a i = a := if_pos rfl
theorem dz {fs : Nat → Addr} {i k : Nat} {a : Addr} (h : k ≠ i) : bK fs i a k = fs k := if_neg h
theorem mF {par : Nat → Nat} {i j k : Nat} (h : k ∈ co par i j) : 1 ≤ k ∧ k < i ∧ par k = j := by
 unfold co at h
 rw [List.mem_filter, List.mem_range] at h
 obtain ⟨h1, h2⟩ := h
 simp at h2
 exact ⟨h2.1, h1, h2.2⟩
theorem jv (par : Nat → Nat) (i j : Nat) : co par (i + 1) j = co par i j ++ (if 1 ≤ i ∧ par i = j then [i] else []) := by
 unfold co
 erw [List.range_succ, List.filter_append]
 congr 1
 by_cases h : 1 ≤ i ∧ par i = j
 · erw [if_pos h]; simp [h]
 · erw [if_neg h]
   erw [List.filter_eq_nil_iff]
   intro k hk
   rw [List.mem_singleton] at hk
   subst hk
   simp
   intro h1 h2
   exact h ⟨h1, h2⟩
theorem m8 {par : Nat → Nat} {i j : Nat} {fs : Nat → Addr} {f : Addr} : (co par i j).map (fun k => D.v (.ref (bK fs i f k))) = (co par i j).map fun k => D.v (.ref (fs k)) := by
 apply List.map_congr_left
 intro k hk
 have := mF hk
 erw [dz (by lia)]
theorem qF {par : Nat → Nat} {i j : Nat} {fs : Nat → Addr} {f : Addr} (h : ¬ (1 ≤ i ∧ par i = j)) : inK par (i + 1) (bK fs i f) j = inK par i fs j := by
 unfold inK
 erw [jv, if_neg h, List.append_nil, m8]
theorem pU {par : Nat → Nat} {i j : Nat} {fs : Nat → Addr} {f : Addr} (h : 1 ≤ i ∧ par i = j) : inK par (i + 1) (bK fs i f) j = .l ((co par i j).map (fun k => D.v (.ref (fs k))) ++ [.v (.ref f)]) := by
 unfold inK
 erw [jv, if_pos h, List.map_append, m8, List.map_cons, List.map_nil, cC]
theorem oH {par : Nat → Nat} {i : Nat} (hp : ∀ k, 1 ≤ k → k < i + 1 → par k < k) : co par (i + 1) i = [] := by
 unfold co
 erw [List.filter_eq_nil_iff]
 intro k hk
 rw [List.mem_range] at hk
 simp
 intro h1 h2
 have := hp k h1 hk
 lia
theorem ko {par : Nat → Nat} {i : Nat} {fs Ls : Nat → Addr} {f L : Addr} (hp : ∀ k, 1 ≤ k → k < i + 1 → par k < k) : inn par (i + 1) (bK fs i f) (bK Ls i L) = ((List.range i).map fun j => (Ls j, inK par (i + 1) (bK fs i f) j)) ++ [(L, .l [])] := by
 unfold inn
 erw [List.range_succ, List.map_append, List.map_cons, List.map_nil, cC]
 congr 1
 · apply List.map_congr_left
   intro j hj
   rw [List.mem_range] at hj
   erw [dz (by lia)]
 · unfold inK
   erw [oH hp]
   rfl
theorem iN {α : Type} : ∀ {l l' : List α} {j : Nat}, l.length = l'.length → (∀ k, k ≠ j → l[k]? = l'[k]?) → l.eraseIdx j = l'.eraseIdx j
 | [], [], _, _, _ => rfl
 | [], _ :: _, _, h, _ => by simp at h
 | _ :: _, [], _, h, _ => by simp at h
 | a :: l, b :: l', 0, h, k => by
   simp only [List.eraseIdx_cons_zero]
   apply List.ext_getElem?
   intro n
   have := k (n + 1) (by lia)
   simpa using this
 | a :: l, b :: l', j + 1, h, k => by
   simp only [List.eraseIdx_cons_succ]
   have h0 := k 0 (by lia)
   simp at h0
   subst h0
   congr 1
   refine iN (by simpa using h) fun n hn => ?_
   have := k (n + 1) (by lia)
   simpa using this
theorem eH {α : Type} : ∀ {l : List α} {i : Nat} (h : i < l.length), (l[i] :: l.eraseIdx i).Perm l
 | a :: l, 0, _ => by simp
 | a :: l, i + 1, h => by
   have h' : i < l.length := by simpa using h
   simp only [List.getElem_cons_succ, List.eraseIdx_cons_succ]
   exact (List.Perm.swap a _ _).trans ((eH h').cons a)
theorem qX {par : Nat → Nat} {i j : Nat} {fs Ls : Nat → Addr} (hj : j < i) : (inn par i fs Ls).Perm ((Ls j, inK par i fs j) :: (inn par i fs Ls).eraseIdx j) := by
 have hl : j < (inn par i fs Ls).length := by unfold inn; simpa using hj
 have := (eH hl).symm
 have e : (inn par i fs Ls)[j] = (Ls j, inK par i fs j) := by simp [inn]
 rw [e] at this
 exact this
theorem rj {par : Nat → Nat} {i : Nat} {fs Ls : Nat → Addr} {f L : Addr} (hp : ∀ k, 1 ≤ k → k < i + 1 → par k < k) (hi : 1 ≤ i) :
 ((Ls (par i), Kd.l ((co par i (par i)).map (fun k => D.v (.ref (fs k))) ++ [.v (.ref f)])) :: (L, .l []) :: (inn par i fs Ls).eraseIdx (par i)).Perm (inn par (i + 1) (bK fs i f) (bK Ls i L)) := by
 have hj : par i < i := hp i hi (by lia)
 erw [ko hp]
 have hl : par i < ((List.range i).map fun j => (Ls j, inK par (i + 1) (bK fs i f) j)).length := by simpa using hj
 have h1 := eH hl
 have e : ((List.range i).map fun j => (Ls j, inK par (i + 1) (bK fs i f) j))[par i] = (Ls (par i), inK par (i + 1) (bK fs i f) (par i)) := by simp
 rw [e, pU ⟨hi, rfl⟩] at h1
 have e2 : ((List.range i).map fun j => (Ls j, inK par (i + 1) (bK fs i f) j)).eraseIdx (par i) = (inn par i fs Ls).eraseIdx (par i) := by
  refine iN (by unfold inn; simp) fun k hk => ?_
  unfold inn
  erw [List.getElem?_map, List.getElem?_map]
  by_cases hk' : k < i
  · erw [List.getElem?_range hk', Option.map_some, Option.map_some, qF fun h => hk h.2.symm]
  · erw [List.getElem?_eq_none (by erw [List.length_range]; lia)]
    rfl
 rw [e2] at h1
 refine List.Perm.trans ?_ ((List.perm_append_comm (l₁ := [(L, Kd.l [])])).trans (List.Perm.append_right _ h1))
 exact pl1 _ _ _
theorem bk_same {i : Nat} {fs : Nat → Addr} {f : Addr} (h : 1 ≤ i) : bkK (i + 1) (bK fs i f) = bkK i fs := by
 unfold bkK
 erw [if_neg (by lia), if_neg (by lia), dz (by lia)]
noncomputable def gW (i : Nat) (fs : Nat → Addr) : Kd := .l ((List.range i).map fun k => .v (.ref (fs k)))
noncomputable def kz (par : Nat → Nat) (rw_ Lb : Addr) (t1 t2 : Kd) (i : Nat) (fs Ls : Nat → Addr) : List (Addr × Kd) := (rw_, gW i fs) :: (82, t1) :: (89, t2) :: (Lb, bkK i fs) :: inn par i fs Ls
theorem oB {par : Nat → Nat} {rw_ Lb : Addr} {t1 t2 : Kd} {i : Nat} {fs Ls : Nat → Addr} (hp : ∀ k, 1 ≤ k → k < i + 1 → par k < k) (hi : i < 6) :
 ∃ Lp kids rest, Lp = (if i = 0 then Lb else Ls (par i)) ∧ kids.length ≤ 1000 ∧ (kz par rw_ Lb t1 t2 i fs Ls).Perm ((82, t1) :: (Lp, Kd.l kids) :: rest) ∧
   ∀ (f L : Addr) (X : Addr × Kd), ((82, t1) :: (Lp, Kd.l (kids ++ [.v (.ref f)])) :: (L, Kd.l []) :: X :: rest).Perm (X :: (rw_, gW i fs) :: (82, t1) :: (89, t2) :: (Lb, bkK (i + 1) (bK fs i f)) :: inn par (i + 1) (bK fs i f) (bK Ls i L)) := by
 by_cases h0 : i = 0
 · subst h0
   refine ⟨Lb, [], [(rw_, gW 0 fs), (89, t2)], rfl, by simp, ?_, fun f L X => ?_⟩
   · show List.Perm ((rw_, gW 0 fs) :: (82, t1) :: (89, t2) :: (Lb, Kd.l []) :: []) _
     exact pc1 (pc2 (.refl _))
   · have e : inn par (0 + 1) (bK fs 0 f) (bK Ls 0 L) = [(L, .l [])] := by
      erw [ko hp]; rfl
     erw [e]
     show List.Perm _ (X :: (rw_, gW 0 fs) :: (82, t1) :: (89, t2) :: (Lb, Kd.l ([] ++ [.v (.ref f)])) :: (L, Kd.l []) :: [])
     exact pc3 (pc3 (.cons _ (pc2 (.refl _))))
 · have hi1 : 1 ≤ i := by lia
   have hj := hp i hi1 (by lia)
   refine ⟨Ls (par i), (co par i (par i)).map fun k => .v (.ref (fs k)), (rw_, gW i fs) :: (89, t2) :: (Lb, bkK i fs) :: (inn par i fs Ls).eraseIdx (par i), by erw [if_neg h0], ?_, ?_, fun f L X => ?_⟩
   · erw [List.length_map]
     unfold co
     exact Nat.le_trans (List.length_filter_le _ _) (by erw [List.length_range]; lia)
   · refine List.Perm.trans (((((qX hj).cons _).cons _).cons _).cons _) ?_
     show List.Perm ((rw_, gW i fs) :: (82, t1) :: (89, t2) :: (Lb, bkK i fs) :: (Ls (par i), inK par i fs (par i)) :: (inn par i fs Ls).eraseIdx (par i)) ((82, t1) :: (Ls (par i), inK par i fs (par i)) :: _)
     exact pc1 (pc3 (.refl _))
   · erw [bk_same hi1]
     refine List.Perm.trans ?_ ((((((rj hp hi1).cons _).cons _).cons _).cons _).cons _)
     exact pc3 (pc3 (.cons _ (pc2 (pc2 (.refl _)))))
theorem pC {i : Nat} {fs : Nat → Addr} {f : Addr} : (List.range (i + 1)).map (fun k => D.v (.ref (bK fs i f k))) = (List.range i).map (fun k => D.v (.ref (fs k))) ++ [.v (.ref f)] := by
 erw [List.range_succ, List.map_append, List.map_cons, List.map_nil, cC]
 congr 1
 apply List.map_congr_left
 intro k hk
 rw [List.mem_range] at hk
 erw [dz (by lia)]
noncomputable def eY (i : Nat) : Str := Str.ofString "e" ++ Str.ofString (toString (i : Int))
noncomputable def dsP (d w : Nat → Int) (odd : Bool) (k : Nat) : List (Str × D) := if odd then [(Str.ofString "d", .i (d k)), (Str.ofString "by", .s ("hand":Str)), (Str.ofString "w", .i (w k))] else [(Str.ofString "d", .i (d k)), (Str.ofString "w", .i (w k))]
noncomputable def DocF (prog : Program) (w' : World) (Gs : Mem) (d w : Nat → Int) (odd : Nat → Bool) (i : Nat) (fs Ls ats : Nat → Addr) : Prop := ∀ k, k < i → Node Gs (fs k) (eY k) (ats k) (Ls k) ∧ ∃ o, Gs (ats k) = some o ∧ DkO prog w' Gs o (dsP d w (odd k) k)
theorem DocF.mono {prog : Program} {w' : World} {Gs Gs' : Mem} {d w : Nat → Int} {odd : Nat → Bool} {i : Nat} {fs Ls ats : Nat → Addr} (h : DocF prog w' Gs d w odd i fs Ls ats) (le : Le Gs Gs') : DocF prog w' Gs' d w odd i fs Ls ats := fun k hk =>
 let ⟨a, o, b, c⟩ := h k hk; ⟨a.mono le, o, le _ _ b, c.mono le⟩
theorem DocF.succ {prog : Program} {w' : World} {Gs : Mem} {d w : Nat → Int} {odd : Nat → Bool} {i : Nat} {fs Ls ats : Nat → Addr} {f L a : Addr} {o : Obj} (h : DocF prog w' Gs d w odd i fs Ls ats) (hn : Node Gs f (eY i) a L) (ho : Gs a = some o) (hd : DkO prog w' Gs o (dsP d w (odd i) i)) :
 DocF prog w' Gs d w odd (i + 1) (bK fs i f) (bK Ls i L) (bK ats i a) := fun k hk => by
 by_cases q : k = i
 · subst q
   erw [cC, cC, cC]
   exact ⟨hn, o, ho, hd⟩
 · erw [dz q, dz q, dz q]
   exact h k (by lia)
theorem oS : ∀ i : Nat, i < 6 → ("e":Str).length + (Str.ofString (toString (i : Int))).length ≤ 100 := by decide +kernel
theorem nN : ∀ i : Nat, i < 6 → PyData.strOk (eY i) = true := by decide +kernel
theorem ds_odd (d w : Nat → Int) (k : Nat) : aD (aD [] [(Str.ofString "d", .i 99), (Str.ofString "by", .s ("hand":Str))]) [(Str.ofString "d", .i (d k)), (Str.ofString "w", .i (w k))] = dsP d w true k := by
 with_unfolding_all rfl
theorem ds_even (d w : Nat → Int) (k : Nat) : aD (aD [] []) [(Str.ofString "d", .i (d k)), (Str.ofString "w", .i (w k))] = dsP d w false k := by
 with_unfolding_all rfl
theorem ds_odd2 (d w : Nat → Int) (k : Nat) : aD [] [(Str.ofString "d", .i (d k)), (Str.ofString "by", .s ("hand":Str)), (Str.ofString "w", .i (w k))] = dsP d w true k := by
 with_unfolding_all rfl
theorem pV (d w : Nat → Int) (k : Nat) : aD [] [(Str.ofString "d", .i (d k)), (Str.ofString "w", .i (w k))] = dsP d w false k := by
 with_unfolding_all rfl
theorem ds_flat (d w : Nat → Int) (o : Bool) (k : Nat) : ∀ p ∈ dsP d w o k, Mine.flat p.2 = true := by
 have h : PyData.strOk ("hand":Str) = true := by decide +kernel
 intro p hp
 unfold dsP at hp
 split at hp
 · simp only [List.mem_cons, List.not_mem_nil, or_false] at hp
   rcases hp with rfl | rfl | rfl
   · rfl
   · exact h
   · rfl
 · simp only [List.mem_cons, List.not_mem_nil, or_false] at hp
   rcases hp with rfl | rfl <;> rfl
set_option tactic.hygienic false
noncomputable abbrev docG (g : Heap) : List (Str × D) := [(("_law_element":Str), .g g.get? (.ref 87)), ("SubElement", .g g.get? (.ref 63)), ("iselement", .g g.get? (.ref 54)), ("enumerate", .v (.type "enumerate")), ("str", .v (.type "str"))]
noncomputable abbrev qB (g : Heap) (G : Mem) (rw_ ta bk ba lo : Addr) : List (Str × D) := (("row":Str), .g G (.ref rw_)) :: ("table", .g G (.ref ta)) :: ("good", .b true) :: ("book", .g G (.ref bk)) :: ("bare", .g G (.ref ba)) :: ("lone", .g G (.ref lo)) :: docG g
noncomputable abbrev eK : List (Str × D) := [(("d":Str), .i 99), ("by", .s ("hand":Str))]
noncomputable def eM (w : World) (c : Bool) (ds : List (Str × D)) : Kd := Kd.d Challenge.rw_wb0032_01.row.prog w (if c then bH ds ("by":Str) (.s ("none":Str)) else ds)
noncomputable abbrev q4 (w : World) (Lb : Addr) (ks : List D) (a1 a2 a3 : Addr) (i : Nat) : List (Addr × Kd) := [(82, ay 86 10), (Lb, Kd.l ks), (a3, eM w (decide (2 < i)) eK), (a2, eM w (decide (1 < i)) []), (a1, eM w (decide (0 < i)) []), (89, av)]
noncomputable abbrev qR (g : Heap) (cs : List Int) (par : Nat → Nat) (d w : Nat → Int) : List (Str × D) := (("cells":Str), .l (cs.map .i)) :: ("parts", .l (bb par d w)) :: docG g
noncomputable abbrev docL (g : Heap) (cs : List Int) (par : Nat → Nat) (d w : Nat → Int) (rw_ : Addr) (Ge Gs : Mem) (ta bk ba lo : Addr) : List (Str × D) := (("row":Str), .v (.ref rw_)) :: ("table", .g Gs (.ref ta)) :: ("good", .b true) :: ("book", .g Gs (.ref bk)) :: ("bare", .g Ge (.ref ba)) :: ("lone", .g Ge (.ref lo)) :: qR g cs par d w
noncomputable def TreeF (prog : Program) (w' : World) (G : Mem) (par : Nat → Nat) (d w : Nat → Int) (odd : Nat → Bool) (fs Ls ats : Nat → Addr) : Prop := DocF prog w' G d w odd 6 fs Ls ats ∧ ∀ j, j < 6 → ∃ o, G (Ls j) = some o ∧ (inK par 6 fs j).ok G o
theorem TreeF.mono {prog : Program} {w' : World} {G G' : Mem} {par : Nat → Nat} {d w : Nat → Int} {odd : Nat → Bool} {fs Ls ats : Nat → Addr} (h : TreeF prog w' G par d w odd fs Ls ats) (le : Le G G') : TreeF prog w' G' par d w odd fs Ls ats := ⟨h.1.mono le, fun j hj => let ⟨o, a, b⟩ := h.2 j hj; ⟨o, le _ _ a, b.mono le⟩⟩
theorem inn_mem {par : Nat → Nat} {i j : Nat} {fs Ls : Nat → Addr} (h : j < i) : (Ls j, inK par i fs j) ∈ inn par i fs Ls := List.mem_map.mpr ⟨j, List.mem_range.mpr h, rfl⟩
theorem Node.tags {G : Mem} {f a L a' L' : Addr} {x y : Str} (h : Node G f x a L) (h' : Node G f y a' L') : x = y := by
 refine aG fun Z kZ => ?_
 obtain ⟨m, t, ma, ⟨fd, sl, dd, o, e, ed, n⟩, ht, _⟩ := h.ex
 refine kZ ?_
 clear kZ Z
 refine aG fun Z kZ => ?_
 obtain ⟨m', t', ma', ⟨fd', sl', dd', o', e', ed', n'⟩, ht', _⟩ := h'.ex
 refine kZ ?_
 clear kZ Z
 rw [e] at e'
 have q := congrArg (fun o : Option Obj => o.map (·.dict)) e'
 have q : some (some dd) = some (some dd') := q
 obtain rfl : _ := Option.some.inj (Option.some.inj q)
 rw [ed] at ed'
 obtain rfl : _ := Option.some.inj ed'
 refine aG fun Z kZ => ?_
 obtain ⟨es, ep, x1, _, _, x4⟩ := n
 refine kZ ?_
 clear kZ Z
 refine aG fun Z kZ => ?_
 obtain ⟨es', ep', y1, _, _, y4⟩ := n'
 refine kZ ?_
 clear kZ Z
 rw [x1] at y1
 cases y1
 have q : m ("tag":Str) = m' ("tag":Str) := (x4 _).symm.trans (y4 _)
 rw [ht, ht'] at q
 have q := Option.some.inj q
 cases q
 rfl
noncomputable def tagF (f₀ : Addr) : D → D
 | .g _ (.ref a) => .s (if a = f₀ then eY 0 else Str.ofString "note")
 | _ => .n
theorem tag_dk {prog : Program} {w : World} {G : Mem} {o : Obj} {ds : List (Str × D)} {a : Addr} {base : Heap} (hx : base.get? a = some o) (h : DkO prog w G o ds) : ey prog w a false base := by
 refine aG fun Z kZ => ?_
 obtain ⟨kvs, ⟨es, ep, ⟨h1, h2, h3⟩, h4, _⟩, _⟩ := h
 refine kZ ?_
 clear kZ Z
 refine aG fun Z kZ => ?_
 obtain ⟨c, dd, dt, sl⟩ := o
 refine kZ ?_
 clear kZ Z
 dsimp only at h1 h2 h3 h4
 subst h1 h4
 subst h2
 exact qL hx
theorem Eff.fresh3 {a b c e : Addr} {k1 k2 k3 k4 k5 k6 : Kd} {s s' : Shared} {G G' : Mem} (ef : Eff [(a, k1), (b, k2)] [(a, k3), (b, k4), (c, k5), (e, k6)] s G s' G') : s.heap.get? c = none := by
 rcases ef.new (c, k5) (.tail _ (.tail _ (.head _))) with h | h
 · exfalso
   have nd := ef.H.2
   simp only [List.map_cons, List.map_nil, List.nodup_cons, List.mem_cons, List.not_mem_nil, or_false, not_or] at nd
   simp only [List.map_cons, List.map_nil, List.mem_cons, List.not_mem_nil, or_false] at h
   rcases h with h | h
   · exact nd.1.2.1 h.symm
   · exact nd.2.1.1 h.symm
 · exact h
theorem dQ {w' : World} {A : Around} {g : Heap} {p : Program} {loose : List Str} {mean : ExcName → Option Value} {mg mb : Str → Option Value} (X : (hd.heap_39 w'.params).In g) (T : Top p loose mean mg mb g) (hA : A.handled = none) (hroom : A.depth < recursionLimit)
 {wr : List Addr} {s₀ : Shared} {G₀ Gx : Mem} {env : Env} {ρ : List (Str × D)} {os : List (Addr × Kd)} {y : Str} {a : Addr} {r : Bool} {p1 p2 pos : Pos} (hx : (("iselement":Str), .g g.get? (.ref 54)) ∈ ρ) (hy : (y, .g Gx (.ref a)) ∈ ρ) (hH : ∀ h : Heap, (∀ b o, Gx b = some o → h.get? b = some o) → ey Challenge.rw_wb0032_01.row.prog w' a r h)
 (hd1 : (y == ("__debug__" : Str)) = false) (hk1 : (env.kindOf y).isSome = true) (hk2 : (env.kindOf ("iselement":Str)).isSome = true) : EvF (model Challenge.rw_wb0032_01.row.prog w') A wr s₀ G₀ env ρ os (.Call (.Name ("iselement":Str) p1) [.Name y p2] [] pos) (.b r) os := by
 revert X
 k_fill
 intro X
 have h54 := X 54 _ (by k_is)
 intro s G Q E f hQ
 refine cj (kn := []) (dF := .g g.get? (.ref 54)) (ds := [.g Gx (.ref a)]) (kds := []) (o := _) (fd := _) f hx (fun ux ux h => h.1) (fun s' G' f' => f'.E.sub _ _ (f'.leOf (x := "iselement") (u := .ref 54) (Gs := g.get?) hx _ _ h54)) rfl (ab (aa hy hd1 hk1) ae) bl (fun s' G' vs ks f' le' rv rk => ?_) (hk := hk2)
 refine jx (A := A) X T hA hroom f'.E.sub (f'.leOf (x := "iselement") (u := .ref 54) (Gs := g.get?) hx) (rgv rv) (hH _ fun b o e => f'.E.sub _ _ (rgl rv _ _ e)) fun v s'' G'' k r => hQ v s'' G'' (f'.go k) (le'.tr k.le) r
noncomputable def DX (prog : Program) (w : World) (G : Mem) (d : Addr) (ds : List (Str × D)) : Prop := ∃ o, G d = some o ∧ DkO prog w G o ds
theorem DX.mono {prog : Program} {w : World} {G G' : Mem} {d : Addr} {ds : List (Str × D)} (h : DX prog w G d ds) (le : Le G G') : DX prog w G' d ds := let ⟨o, a, b⟩ := h; ⟨o, le _ _ a, DkO.mono le b⟩
set_option maxRecDepth 100000 in
set_option maxHeartbeats 8000000 in
theorem jj {w' : World} {A : Around} {g : Heap} {p : Program} {loose : List Str} {mean : ExcName → Option Value} {mg mb : Str → Option Value} (X : (hd.heap_39 w'.params).In g) (T : Top p loose mean mg mb g) (C : CodeHd g 86 82) (hA : A.handled = none) (hroom : A.depth + 1 < recursionLimit)
 {s s₁ : Shared} {G G₁ Gr : Mem} {env : Env} {ρ : List (Str × D)} {rest : List (Addr × Kd)} {kids : List D} {bk bt Lb : Addr} {Q E : Value → Shared → Prop} {k₁ k₂ : Nat} {p₁ p₂ p₃ p₄ p₅ p₆ : Pos} (hle : Le g.get? G)
 (f : Fm [82, 89] s G env ρ ((82, ay 86 10) :: (Lb, Kd.l kids) :: rest) s₁ G₁) (h1 : (("SubElement":Str), .g g.get? (.ref 63)) ∈ ρ) (h2 : (("book":Str), .g Gr (.ref bk)) ∈ ρ) (hB : Node Gr bk ("book":Str) bt Lb) (hk : kids.length ≤ 1000) (hks : (env.kindOf ("SubElement":Str)).isSome = true) (hkb : (env.kindOf ("book":Str)).isSome = true)
 (hQ : ∀ v s' G' n L a d, Fm [82, 89] s G env ρ ((82, ay 86 10) :: (Lb, Kd.l (kids ++ [.v (.ref n)])) :: (a, Kd.d Challenge.rw_wb0032_01.row.prog w' []) :: rest) s' G' → Le G₁ G' → Node G' n ("note":Str) a L → DX Challenge.rw_wb0032_01.row.prog w' G' d [] → (a == sysModules) = false → (d == sysModules) = false → a ∉ ([82, 89] : List Addr) → Rp G' (.t [.v (.ref n), .v (.ref d)]) v → Q v s') :
 wpAny (model Challenge.rw_wb0032_01.row.prog w') A (eval (.Tuple [.Call (.Name ("SubElement":Str) p₁) [.Name ("book":Str) p₂, .Constant (.str ("note":Str)) k₁ p₃] [] p₄, .Dict [] [] p₅] k₂ p₆) env) Q E s₁ := by
 revert X
 k_fill
 intro X
 have h63 := X 63 _ (by k_is)
 refine Tuple_ ?_
 refine spliced_more ?_
 refine aS fun P hp => ?_
 refine cj (kn := []) (dF := .g g.get? (.ref 63)) (ds := [.g Gr (.ref bk), .s ("note":Str)]) (kds := []) (o := _) (fd := _) f h1 (fun ux ux h => h.1) (fun s' G' f' => f'.E.sub _ _ (f'.leOf (x := "SubElement") (u := .ref 63) (Gs := g.get?) h1 _ _ h63)) rfl (ab (aa h2 rfl hkb) (ab aT ae)) bl (fun sx Gx vs ks fx lex rv rk => ?_) (hk := hks)
 refine ct_sub (A := A) X T C hA hroom fx.E.sub (fx.leOf (x := "SubElement") h1) (rgv rv) (hB.mono (rgl rv)) hk (Held.left (os := [(82, ay 86 10), (Lb, Kd.l kids)]) fx.held) fun sy Gy n L a ef nd fr hsa => ?_
 have nwa : a ∉ ([82, 89] : List Addr) := fx.notin ef.fresh4
 have fy := fx.called (os := [(82, ay 86 10), (Lb, Kd.l kids)]) ef fun b hb ux => ?hb
 case hb =>
  rcases List.mem_cons.mp hb with h | h
  · erw [h]; exact .head _
  · erw [List.mem_singleton.mp h]; exact .tail _ (.head _)
 have fy := fy.perm (os' := (L, Kd.l []) :: (82, ay 86 10) :: (Lb, Kd.l (kids ++ [.v (.ref n)])) :: (a, Kd.d Challenge.rw_wb0032_01.row.prog w' []) :: rest) (pc2 (.refl _))
 refine Fm.fixK fy (fx.notin ef.fresh3) fun Gz fz lez ux ux ux => ?_
 refine hp _ _ ?_
 refine spliced_more ?_
 refine aS fun P hp => ?_
 refine jl fz (gj T fun b o e => fz.E.sub _ _ (fz.K.le _ _ (hle _ _ e))) fun su d fu nd' hsd => ?_
 refine hp _ _ ?_
 refine Fm.fixK fu nd' fun Gv fv lev od ed kd => ?_
 refine spliced_none ?_
 refine bx (ds := [.v (.ref n), .v (.ref d)]) fv.E.sub (rc rfl (rc rfl rz)) (Nat.le_of_ble_eq_true rfl) fun vt st Gt kt rt => ?_
 exact hQ vt st Gt n L a d (fv.go kt) (lex.tr (ef.K.le.tr (lez.tr (lev.tr kt.le)))) (nd.mono (lez.tr (lev.tr kt.le))) (DX.mono ⟨od, ed, kd⟩ kt.le) hsa hsd nwa rt
set_option maxRecDepth 100000 in
set_option maxHeartbeats 8000000 in
theorem ct_doc {w' : World} {A : Around} {g : Heap} {p : Program} {loose : List Str} {mean : ExcName → Option Value} {mg mb : Str → Option Value} (X : (hd.heap_39 w'.params).In g) (T : Top p loose mean mg mb g) (C : CodeHd g 86 82) (C2 : CodeHd g 91 89) (hA : A.handled = none) (hroom : A.depth + 2 < recursionLimit) (hU : A.units + 100 < cLine)
 (par : Nat → Nat) (d w : Nat → Int) (cs : List Int) (hcs : cs.length = 7) (hp : ∀ k, 1 ≤ k → k < 6 → par k < k)
 {s : Shared} {G : Mem} {Q E : Value → Shared → Prop} {vs : List Value} (hin : In G s.heap) (hle : Le g.get? G) (hvs : RpL G [.l (cs.map .i), .l (bb par d w)] vs) (hh : Held G s.heap [(82, ay 86 10), (89, .o (tabObj #[]))])
 (hQ : ∀ s' G' v fs Ls ats, Eff [(82, ay 86 10), (89, .o (tabObj #[]))] [(82, ay 86 10), (89, av)] s G s' G' → Rp G' (.t [.v (.ref (fs 0)), .b true]) v → TreeF Challenge.rw_wb0032_01.row.prog w' G' par d w (fun k => (cs.getD k 0) % 2 == 1) fs Ls ats → Q v s') : wpAny (model Challenge.rw_wb0032_01.row.prog w') A (call (.ref 92) vs) Q E s := by
 refine k_rr (Z := fun vs => wpAny _ _ (call _ vs _) _ _ _) hvs fun v₁ v₂ r₁ r₂ => ?_
 have hroom0 : A.depth < recursionLimit := by lia
 have hroom1 : A.depth + 1 < recursionLimit := by lia
 revert X
 k_fill
 intro X
 have h87 := X 87 _ (by k_is)
 have h63 := X 63 _ (by k_is)
 have h54 := X 54 _ (by k_is)
 k_dflt (refine' bo (os := [(82, ay 86 10), (89, .o (tabObj #[]))]) (ρ := (qR g cs par d w)) X T hroom0 hin hle ?ho ?hcd ?hbody ?hbind ?hclo ?hkind ?hnd ?gl ?bu ?hos ?hod ?hρ ?hrun ?hco ?hgen ?hk; ((case ho | hcd => k_is); (case hnd => decide +kernel); (case hbody | hclo | gl | bu | hco | hgen | hk => exact rfl)); (case hbind => exact BindsTo.of_eq rfl); (case hkind => exact rfl); (case hos => exact hh.1); (case hod => exact hh.2))
 case hρ =>
  intro h L hn hc hg hb
  repeat' first | exact List.forall_mem_nil _ | with_reducible refine aM ?_ ?_
  · exact al hn rfl rfl rfl r₁
  · exact al hn rfl rfl rfl r₂
  · exact bi hg rfl rfl (mg_of X T.g (by k_is)) hle
  · exact bi hg rfl rfl (mg_of X T.g (by k_is)) hle
  · exact bi hg rfl rfl (mg_of X T.g (by k_is)) hle
  · exact aB hg hb rfl rfl rfl (mg_none_of X T.g (by k_is)) ((T.builtins _ (by decide)).trans (by decide +kernel))
  · exact aB hg hb rfl rfl rfl (mg_none_of X T.g (by k_is)) ((T.builtins _ (by decide)).trans (by decide +kernel))
 case hrun =>
  intro s₁ L f₁
  have ups : ∀ {env : Env} {ρ : List (Str × D)} {os : List (Addr × Kd)} {s₂ : Shared} {G₂ : Mem}, Fm [82, 89] s G env ρ os s₂ G₂ → (s₂.heap.objs.size == sysModules) = false := fun f => gj T fun b o e => f.E.sub _ _ (f.K.le _ _ (hle _ _ e))
  refine dy (wr := [82, 89]) (s₀ := s) (G₀ := G) (names := [("row":Str), ("table":Str), ("good":Str)]) ?hA ?h ?b ?c
  case hA => exact hA
  case b => exact rfl
  case c => kernel_rfl
  refine Tuple_ ?_
  refine spliced_more ?_
  refine aS fun QQ hqq => ?_
  refine cQ f₁ ae (by decide) fun s₂ G₂ rw_ f₂ na₂ => ?_
  refine hqq _ _ ?_
  refine spliced_more ?_
  refine aS fun QQ hqq => ?_
  refine cZ f₂ (EvD.cons ad (EvD.cons aT EvD.nil)) (by simp) (Nat.le_of_ble_eq_true rfl) (ups f₂) fun s₃ G₃ ta f₃ le₃ na₃ hsm₃ => ?_
  refine hqq _ _ ?_
  refine spliced_more ?_
  refine aS fun QQ hqq => ?_
  refine dD f₃ d9 fun v₄ s₄ G₄ f₄ le₄ r₄ => ?_
  refine hqq _ _ ?_
  refine spliced_none ?_
  refine bx (ds := [.v (.ref rw_), .v (.ref ta), .b true]) f₄.E.sub (rc rfl (rc rfl (rc r₄ rz))) (Nat.le_of_ble_eq_true rfl) fun v s₅ G₅ k₅ r₅ => ?_
  refine jN (f₄.go k₅) r₅ (aI ar af (aI ar af (aI ar af bq))) fun s₆ f₆ => ?_
  refine Fm.fixK f₆ na₃ fun G₇ f₇ le₇ ot hta hot => ?_
  have hot : DkO Challenge.rw_wb0032_01.row.prog w' G₇ ot eK := hot
  refine dy (wr := [82, 89]) (s₀ := s) (G₀ := G) (names := [("book":Str), ("bare":Str), ("lone":Str)]) ?hA2 ?h2 ?b2 ?c2
  case hA2 => exact hA
  case b2 => exact rfl
  case c2 => kernel_rfl
  refine Tuple_ ?_
  refine spliced_more ?_
  refine aS fun QQ hqq => ?_
  refine lf f₇ (dF := .g g.get? (.ref 87)) m5 (fun ux ux h => h.1) h87 rfl fun s₈ G₈ f₈ le₈ => ?_
  refine spliced_more ?_
  refine aS fun PP hpp => ?_
  refine dD f₈ aT fun v₉ s₉ G₉ f₉ le₉ r₉ => ?_
  refine hpp _ _ ?_
  refine spliced_more ?_
  refine aS fun PP hpp => ?_
  refine jl f₉ (ups f₉) fun sA bt fA nA hsA => ?_
  refine hpp _ _ ?_
  refine spliced_none ?_
  refine ⟨fA.E.sub _ _ (fA.K.le _ _ (hle _ _ h87)), ?_⟩
  have fA := fA.perm (pl2 _ _ _ _)
  refine il (A := A.deeper _) X T C hA hroom1 fA.E.sub (hle.tr fA.K.le) (rc r₉ (rc rfl rz)) (Held.left (os := [(82, ay 86 10)]) fA.held) fun sB GB bk Lb eB ndB frB => ?_
  have fB := fA.called (os := [(82, ay 86 10)]) eB fun b hb ux => .tail _ hb
  refine hqq _ _ ?_
  refine spliced_more ?_
  refine aS fun QQ hqq => ?_
  refine jU T C2 (hle.tr fB.K.le) (fB.perm (pl4 _ _ _ _ _ _)) trivial rfl rfl rfl rfl rfl fun sC ba c₁ ct₁ fC nC ux => ?_
  refine hqq _ _ ?_
  refine spliced_more ?_
  refine aS fun QQ hqq => ?_
  refine jU T C2 (hle.tr fB.K.le) (fC.perm (pl1 _ _ _)) trivial rfl rfl rfl rfl rfl fun sD lo c₂ ct₂ fD nD ux => ?_
  refine hqq _ _ ?_
  refine spliced_none ?_
  refine bx (ds := [.v (.ref bk), .v (.ref ba), .v (.ref lo)]) fD.E.sub (rc rfl (rc rfl (rc rfl rz))) (Nat.le_of_ble_eq_true rfl) fun v sE GE kE rE => ?_
  refine jN (fD.go kE) rE (aI ar af (aI ar af (aI ar af bq))) fun sF fF => ?_
  refine wpAny_execs_cons ?_
  refine plainObj_wpAny_Assign_Attribute ?_ rfl
  refine aS fun QQ hqq => ?_
  refine az fF (d := .v (.ref ta)) m4 fun v sG GG fG leG rG => ?_
  refine hqq _ _ ?_
  obtain rfl : v = .ref ta := rG
  refine az fG (d := .v (.ref ba)) m1 fun v sH GH fH leH rH => ?_
  obtain rfl : v = .ref ba := rH
  refine jF (fH.perm (pl2 _ _ _ _)) (by decide +kernel) fun sI d1 fI nI => ?_
  refine wpAny_execs_cons ?_
  refine plainObj_wpAny_Assign_Attribute ?_ rfl
  refine aS fun QQ hqq => ?_
  refine dD fI aT fun v sJ GJ fJ leJ rJ => ?_
  refine hqq _ _ ?_
  obtain ⟨tl, rfl⟩ := rJ
  refine az fJ (d := .v (.ref lo)) m2 fun v sK GK fK leK rK => ?_
  obtain rfl : v = .ref lo := rK
  refine jF (fK.perm (pl2 _ _ _ _)) (by decide +kernel) fun sL d2 fL nL => ?_
  refine Fm.fixO fL nD fun Ga fa lea eoa => ?_
  refine Fm.fixK fa nL fun Gb fb leb ob eob kob => ?_
  refine Fm.fixO fb nC fun Gc fc lec eoc => ?_
  refine Fm.fixK fc nI fun Gd fd led od eod kod => ?_
  refine Fm.fixK (fd.perm (pl3 _ _ _ _ _)) nA fun Ge fe lee oe eoe koe => ?_
  have fe := fe.sayK (k' := av) fun o ho => ⟨_, ho⟩
  have fe := fe.perm (os' := [(rw_, gW 0 (fun ux => 0)), (82, ay 86 10), (89, av), (Lb, bkK 0 (fun ux => 0))]) (by
   show List.Perm _ [(rw_, Kd.l []), (82, ay 86 10), (89, av), (Lb, Kd.l [])]
   exact pc3 (pc2 (.refl _)))
  have leGE : Le GE Ge := (leG.tr (leH.tr (leJ.tr (leK.tr (lea.tr (leb.tr (lec.tr (led.tr lee))))))))
  have hB : Node Ge bk ("book":Str) bt Lb := ndB.mono (kE.le.tr leGE)
  have le7e : Le G₇ Ge := le₈.tr (le₉.tr (eB.K.le.tr (kE.le.tr leGE)))
  have hFba : Fn Ge ba _ := ⟨_, _, _, _, lee _ _ (led _ _ eoc), lee _ _ eod, kod⟩
  have hFlo : Fn Ge lo _ := ⟨_, _, _, _, lee _ _ (led _ _ (lec _ _ (leb _ _ eoa))), lee _ _ (led _ _ (lec _ _ eob)), kob⟩
  have fg := fe.say2B ["table", "book", "bare", "lone"] (ρ' := ((("row":Str), .v (.ref rw_)) :: ("table", .g Ge (.ref ta)) :: ("good", .b true) :: ("book", .g Ge (.ref bk)) :: ("bare", .g Ge (.ref ba)) :: ("lone", .g Ge (.ref lo)) :: qR g cs par d w))
  refine lS (xs := (bb par d w).mapIdx fun i d => .t [.i i, d]) (fun i ρi osi => ∃ (Gs : Mem) (fs Ls ats : Nat → Addr), Le Ge Gs ∧ DocF Challenge.rw_wb0032_01.row.prog w' Gs d w (fun k => (cs.getD k 0) % 2 == 1) i fs Ls ats ∧ osi = kz par rw_ Lb (ay 86 10) av i fs Ls ∧ ρi = (docL g cs par d w rw_ Ge Gs ta bk ba lo)) (fun ux ux => False) (fun ux ux ux => False)
   fg (aH (m6 m5) (ab (aa (m6 m1)) ae) (dU (by exact hA))) ⟨Ge, fun ux => 0, fun ux => 0, fun ux => 0, Le.rf _, fun k hk => by lia, rfl, rfl⟩ ?turn ?hend (fun ux ux ux ux h => h.elim) (fun ux ux ux ux ux ux h => h.elim)
  case hend =>
   rintro ρ' osi s' G' E' ⟨Gs, fs, Ls, ats, leS, hF, rfl, rfl⟩ f
   refine wpAny_execs_nil ?_
   generalize hn6 : List.length _ = n6 at hF f
   obtain rfl : 6 = n6 := by rw [← hn6]; simp [bb]
   have N := f.N
   simp only [kz, List.map_cons, List.nodup_cons, List.mem_cons, not_or] at N
   have hnw : ∀ p ∈ inn par 6 fs Ls, p.1 ∉ ([82, 89] : List Addr) := fun p hp hm => by
    have hp := List.mem_map_of_mem (f := fun (x : Addr × Kd) => x.1) hp
    rcases List.mem_cons.mp hm with q | q
    · rw [q] at hp; exact N.2.1.2.2 hp
    · rw [List.mem_singleton.mp q] at hp; exact N.2.2.1.2 hp
   have hrw : rw_ ∉ ([82, 89] : List Addr) := fun hm => by
    rcases List.mem_cons.mp hm with q | q
    · exact N.1.1 q
    · exact N.1.2.1 (List.mem_singleton.mp q)
   have leGs : Le Gs G' := f.leOf (x := "table") m1
   refine aG fun Z kZ => ?_
   obtain ⟨Gi, fi, lei, hinn⟩ := Fm.fixAll (os₁ := inn par 6 fs Ls) (os := [(rw_, gW 6 fs), (82, ay 86 10), (89, av), (Lb, bkK 6 fs)]) (f.perm (List.perm_append_comm (l₁ := [(rw_, gW 6 fs), (82, ay 86 10), (89, av), (Lb, bkK 6 fs)]) (l₂ := inn par 6 fs Ls))) hnw
   refine kZ ?_
   clear kZ Z
   refine Fm.fixK fi hrw fun Gr fr ler orw erw krw => ?_
   have leS2 : Le Gs Gr := leGs.tr (lei.tr ler)
   have leE2 : Le Ge Gr := leS.tr leS2
   have hT : TreeF Challenge.rw_wb0032_01.row.prog w' Gr par d w (fun k => (cs.getD k 0) % 2 == 1) fs Ls ats := ⟨hF.mono leS2, fun j hj => by
    obtain ⟨o, e, k⟩ := hinn _ (inn_mem hj)
    exact ⟨o, ler _ _ e, k.mono ler⟩⟩
   have fr := fr.perm (os' := [(82, ay 86 10), (Lb, Kd.l [.v (.ref (fs 0))]), (89, av)]) (by
    show List.Perm [(82, ay 86 10), (89, av), (Lb, Kd.l [.v (.ref (fs 0))])] _
    exact .cons _ (pc1 (.refl _)))
   have fr := fr.say2B ["row", "table", "book", "bare", "lone"] (ρ' := (qB g Gr rw_ ta bk ba lo))
   have hBr : Node Gr bk ("book":Str) bt Lb := hB.mono leE2
   refine wpAny_execs_cons (wpAny_For ?_)
   refine aS fun QQ hqq => ?_
   refine Tuple_ ?_
   refine spliced_more ?_
   refine aS fun Q1 hin1 => ?_
   refine jj (A := A.deeper _) X T C hA hroom hle fr (m6 m1) m3 hBr (Nat.le_of_ble_eq_true rfl) rfl rfl fun vt1 st1 Gt1 n1 L1 a1 d1 ft1 let1 nd1 dd1 hsa1 hsd1 nwa1 rt1 => ?_
   refine hin1 _ _ ?_
   refine spliced_more ?_
   refine aS fun Q2 hin2 => ?_
   refine jj (A := A.deeper _) X T C hA hroom hle ft1 (m6 m1) m3 hBr (Nat.le_of_ble_eq_true rfl) rfl rfl fun vt2 st2 Gt2 n2 L2 a2 d2 ft2 let2 nd2 dd2 hsa2 hsd2 nwa2 rt2 => ?_
   refine hin2 _ _ ?_
   refine spliced_more ?_
   refine aS fun Q3 hin3 => ?_
   refine Tuple_ ?_
   refine spliced_more ?_
   refine aS fun P3 hpp3 => ?_
   refine cj (kn := []) (dF := .g g.get? (.ref 63)) (ds := [.g Gr (.ref bk), .s ("note":Str), .g Gr (.ref ta)]) (kds := []) (o := _) (fd := _) ft2 (m6 m1) (fun ux ux h => h.1) (fun s' G' f' => f'.E.sub _ _ (f'.leOf (x := "SubElement") (u := .ref 63) (Gs := g.get?) (m6 m1) _ _ h63)) rfl (ab (aa m3) (ab aT (ab (aa m1) ae))) bl fun sx3 Gx3 vs ks fx3 lex3 rv rk => ?_
   have lev1 := rgl rv
   refine ct_subg (A := A.deeper _) X T C hA hroom fx3.E.sub (fx3.leOf (x := "SubElement") (m6 m1)) (rtl (rgv rv) fun r h => rtl h fun r h => rgv h) (hBr.mono lev1) (lev1 _ _ (leE2 _ _ (le7e _ _ hta))) (hot.mono (le7e.tr (leE2.tr lev1))) hsm₃ (Nat.le_of_ble_eq_true rfl) (Nat.le_of_ble_eq_true rfl) (Held.left (os := [(82, ay 86 10), (Lb, Kd.l [.v (.ref (fs 0)), .v (.ref n1), .v (.ref n2)])]) fx3.held) fun sy3 Gy3 n3 L3 a3 ef3 nd3 fr3 hsa3 => ?_
   have nwa3 : a3 ∉ ([82, 89] : List Addr) := fx3.notin ef3.fresh4
   have nwL3 : L3 ∉ ([82, 89] : List Addr) := fx3.notin ef3.fresh3
   have fy3 := fx3.called (os := [(82, ay 86 10), (Lb, Kd.l [.v (.ref (fs 0)), .v (.ref n1), .v (.ref n2)])]) ef3 fun b hb ux => ?hb3
   case hb3 =>
    rcases List.mem_cons.mp hb with h | h
    · erw [h]; exact .head _
    · erw [List.mem_singleton.mp h]; exact .tail _ (.head _)
   have fy3 := fy3.perm (os' := (L3, Kd.l []) :: [(82, ay 86 10), (Lb, Kd.l [.v (.ref (fs 0)), .v (.ref n1), .v (.ref n2), .v (.ref n3)]), (a3, Kd.d Challenge.rw_wb0032_01.row.prog w' eK), (a2, Kd.d Challenge.rw_wb0032_01.row.prog w' []), (a1, Kd.d Challenge.rw_wb0032_01.row.prog w' []), (89, av)]) (by
    show List.Perm [(82, ay 86 10), (Lb, Kd.l [.v (.ref (fs 0)), .v (.ref n1), .v (.ref n2), .v (.ref n3)]), (L3, Kd.l []), (a3, Kd.d Challenge.rw_wb0032_01.row.prog w' eK), (a2, Kd.d Challenge.rw_wb0032_01.row.prog w' []), (a1, Kd.d Challenge.rw_wb0032_01.row.prog w' []), (89, av)] _
    exact pc2 (.refl _))
   refine Fm.fixK fy3 nwL3 fun Gz3 fz3 lez3 ux ux ux => ?_
   refine hpp3 _ _ ?_
   refine spliced_more ?_
   refine aS fun P3 hpp3 => ?_
   refine cZ fz3 (EvD.cons ad (EvD.cons aT EvD.nil)) (by simp) (Nat.le_of_ble_eq_true rfl) (ups fz3) fun su3 Gu3 d3 fu3 leu3 nd3' hsd3 => ?_
   refine hpp3 _ _ ?_
   refine Fm.fixK fu3 nd3' fun Gv3 fv3 lev3' od3 ed3 kd3 => ?_
   refine spliced_none ?_
   refine bx (ds := [.v (.ref n3), .v (.ref d3)]) fv3.E.sub (rc rfl (rc rfl rz)) (Nat.le_of_ble_eq_true rfl) fun vt3 st3 Gt3 kt3 rt3 => ?_
   have ft3 := fv3.go kt3
   have let3 : Le Gt2 Gt3 := lex3.tr (ef3.K.le.tr (lez3.tr (leu3.tr (lev3'.tr kt3.le))))
   have led3 : Le Gv3 Gt3 := kt3.le
   have len3 : Le Gy3 Gt3 := lez3.tr (leu3.tr (lev3'.tr kt3.le))
   refine hin3 _ _ ?_
   refine spliced_none ?_
   refine bx (ds := [.t [.v (.ref n1), .v (.ref d1)], .t [.v (.ref n2), .v (.ref d2)], .t [.v (.ref n3), .v (.ref d3)]]) ft3.E.sub (rc ((rt1.mono let2).mono let3) (rc (rt2.mono let3) (rc rt3 rz))) (Nat.le_of_ble_eq_true rfl) fun v sn Gn kn rn => ?_
   have fn := ft3.go kn
   have hN1 : Node Gn n1 ("note":Str) a1 L1 := nd1.mono (let2.tr (let3.tr kn.le))
   have hN2 : Node Gn n2 ("note":Str) a2 L2 := nd2.mono (let3.tr kn.le)
   have hN3 : Node Gn n3 ("note":Str) a3 L3 := nd3.mono (len3.tr kn.le)
   have hD1 := dd1.mono (let2.tr (let3.tr kn.le))
   have hD2 := dd2.mono (let3.tr kn.le)
   have hD3 := DX.mono ⟨od3, ed3, kd3⟩ (led3.tr kn.le)
   have leRn : Le Gr Gn := let1.tr (let2.tr (let3.tr kn.le))
   have fn := fn.say2B ["row", "table", "book", "bare", "lone"] (ρ' := (qB g Gn rw_ ta bk ba lo))
   refine hqq _ _ ?_
   refine on (pos := ⟨0, 0, 0, 0⟩) (xs := [.t [.v (.ref n1), .v (.ref d1)], .t [.v (.ref n2), .v (.ref d2)], .t [.v (.ref n3), .v (.ref d3)]]) (fun i ρi osi => ρi = qB g Gn rw_ ta bk ba lo ∧ osi = q4 w' Lb [.v (.ref (fs 0)), .v (.ref n1), .v (.ref n2), .v (.ref n3)] a1 a2 a3 i) ?hA4 fn rn ⟨rfl, rfl⟩ ?turn2 ?hend2
   case hA4 => exact hA
   case turn2 =>
    rintro i e ρi osi hdi ⟨hr, rfl⟩
    subst hr
    have pk : ∃ n a L du ds os₁ os₂, e = .t [.v (.ref n), .v (.ref du)] ∧ Node Gn n ("note":Str) a L ∧ DX Challenge.rw_wb0032_01.row.prog w' Gn du ds ∧ (a == sysModules) = false ∧ (du == sysModules) = false ∧ (∀ p ∈ ds, Mine.flat p.2 = true) ∧ ds.length ≤ 100 ∧ q4 w' Lb [.v (.ref (fs 0)), .v (.ref n1), .v (.ref n2), .v (.ref n3)] a1 a2 a3 i = os₁ ++ (a, Kd.d Challenge.rw_wb0032_01.row.prog w' ds) :: os₂ ∧ q4 w' Lb [.v (.ref (fs 0)), .v (.ref n1), .v (.ref n2), .v (.ref n3)] a1 a2 a3 (i + 1) = os₁ ++ (a, Kd.d Challenge.rw_wb0032_01.row.prog w' (bH ds ("by":Str) (.s ("none":Str)))) :: os₂ := by
     have fl3 : ∀ p ∈ eK, Mine.flat p.2 = true := by
      intro p hp
      simp only [List.mem_cons, List.not_mem_nil, or_false] at hp
      rcases hp with rfl | rfl
      · rfl
      · show PyData.strOk ("hand":Str) = true; decide +kernel
     rcases i with _ | _ | _ | i
     · exact ⟨n1, a1, L1, d1, [], [_, _, _, _], [_], (Option.some.inj hdi).symm, hN1, hD1, hsa1, hsd1, fun ux h => (List.not_mem_nil h).elim, by simp, rfl, rfl⟩
     · exact ⟨n2, a2, L2, d2, [], [_, _, _], [_, _], (Option.some.inj hdi).symm, hN2, hD2, hsa2, hsd2, fun ux h => (List.not_mem_nil h).elim, by simp, rfl, rfl⟩
     · exact ⟨n3, a3, L3, d3, eK, [_, _], [_, _, _], (Option.some.inj hdi).symm, hN3, hD3, hsa3, hsd3, fl3, by simp, rfl, rfl⟩
     · cases hdi
    refine aG fun Z kZ => ?_
    obtain ⟨n, a, L, du, ds, os₁, os₂, rfl, hN, ⟨od, eod, kod⟩, hsa, hsd, hfl, hdl, eq1, eq2⟩ := pk
    refine kZ ?_
    clear kZ Z
    refine ⟨_, mP (by exact hA) (bd ar af (bd ar af bq)), fun wr s₀ G₀ s G E' f => ?_⟩
    rw [eq1] at f
    erw [eq2]
    refine aS fun Qt kQt => ?_
    have leG : Le Gn G := f.leOf (x := "table") m3
    have f := f.say2B ["note"] (ρ' := ((("note":Str), .g G (.ref n)) :: ("due", .v (.ref du)) :: qB g Gn rw_ ta bk ba lo))
    refine Node.exK (hN.mono leG) fun mf tf maf hFf htf haf ux ux ux ux => ?_
    refine dk f (d := .b true) (os₁ := os₁ ++ (a, Kd.d Challenge.rw_wb0032_01.row.prog w' ds) :: os₂) ?hgoodn ar (ρ' := ((("note":Str), .g G (.ref n)) :: ("good", .b true) :: ("due", .v (.ref du)) :: ("row", .g Gn (.ref rw_)) :: ("table", .g Gn (.ref ta)) :: ("book", .g Gn (.ref bk)) :: ("bare", .g Gn (.ref ba)) :: ("lone", .g Gn (.ref lo)) :: docG g)) aU fun sB GB' fB' leB' => ?_
    case hgoodn =>
     refine bU (aO (aa m4)) (e8 ?xn1)
     refine bX (da := .v (.ref a)) (db := .v (.ref du)) (aO (aZ (aa m0) hFf haf (by decide +kernel) dJ fun ux h => rfl)) (aO (aa m1)) fun s G₁ Q E x y f ra rb hQ => ?_
     obtain rfl : x = .ref a := ra
     obtain rfl : y = .ref du := rb
     refine aG fun Z kZ => ?_
     obtain ⟨_, _, oa, ea, ka⟩ := f.S (a, Kd.d Challenge.rw_wb0032_01.row.prog w' ds) (List.mem_append_right _ (.head _))
     refine kZ ?_
     clear kZ Z
     have leQ : Le Gn G₁ := f.leOf (x := "table") m3
     exact gc hsa hsd ea (f.E.sub _ _ (leQ _ _ eod)) ka (DkO.mono leQ kod) hfl (by show A.units + 3 < cLine; lia) (hQ _ s G₁ f (Le.rf _) rfl)
    refine wpAny_execs_cons (wpAny_Assign_Subscript (dD fB' aT fun v s₁ G₁ f₁ le₁ r₁ => ?_))
    refine aO (aZ (dd := .v (.ref a)) (aa m0) hFf haf (by decide +kernel) dJ fun ux h => rfl) s₁ G₁ _ _ f₁ fun v2 s₂ G₂ f₂ le₂ r₂ => ?_
    obtain rfl : v2 = .ref a := r₂
    refine dD f₂ aT fun v3 s₃ G₃ f₃ le₃ r₃ => ?_
    refine aG fun Z kZ => ?_
    obtain ⟨_, _, oa, ea, ka⟩ := f₃.S (a, Kd.d Challenge.rw_wb0032_01.row.prog w' ds) (List.mem_append_right _ (.head _))
    refine kZ ?_
    clear kZ Z
    obtain ⟨u3, rfl⟩ := r₃
    refine l0 ea ka ((r₁.mono le₂).mono le₃) (by lia) fun h' o' eo' ko' hs' => ?_
    have f₄ := f₃.mut (t := s₃.toks + 1) (k' := Kd.d Challenge.rw_wb0032_01.row.prog w' (bH ds ("by":Str) (.s ("none":Str)))) hs' eo' ko'
    refine wpAny_execs_nil (kQt _ _ ⟨_, _, G₃, ⟨rfl, rfl⟩, f₄.say eS⟩)
   case hend2 =>
    rintro ρ' osi s' G' E' ⟨hr, rfl⟩ f
    subst hr
    refine wpAny_execs_nil ?_
    have leG : Le Gn G' := f.leOf (x := "table") m1
    have N := f.N
    simp only [List.map_cons, List.map_nil, List.nodup_cons, List.mem_cons, List.not_mem_nil, or_false, not_or] at N
    have nLb : Lb ∉ ([82, 89] : List Addr) := fun hm => by
     rcases List.mem_cons.mp hm with q | q
     · exact N.1.1 q.symm
     · exact N.2.1.2.2.2 (List.mem_singleton.mp q)
    have f := f.perm (os' := [(Lb, Kd.l [.v (.ref (fs 0)), .v (.ref n1), .v (.ref n2), .v (.ref n3)]), (a3, eM w' true eK), (a2, eM w' true []), (a1, eM w' true []), (82, ay 86 10), (89, av)]) (by
     show List.Perm [(82, ay 86 10), (Lb, Kd.l [.v (.ref (fs 0)), .v (.ref n1), .v (.ref n2), .v (.ref n3)]), (a3, eM w' true eK), (a2, eM w' true []), (a1, eM w' true []), (89, av)] _
     exact pc1 (pc1 (pc1 (pc1 (.refl _)))))
    refine Fm.fixK f nLb fun Gq fq leq oLb eLb kLb => ?_
    have fq := ((fq.drop nwa3).drop nwa2).drop nwa1
    have leRq : Le Gr Gq := leRn.tr (leG.tr leq)
    have fq := fq.say2B ["row", "table", "book", "bare", "lone"] (ρ' := (qB g Gq rw_ ta bk ba lo))
    have hM0 : Node Gq (fs 0) (eY 0) (ats 0) (Ls 0) := ((hT.1 0 (by lia)).1).mono leRq
    have hM1 := hN1.mono (leG.tr leq)
    have hM2 := hN2.mono (leG.tr leq)
    have hM3 := hN3.mono (leG.tr leq)
    have hbl : ∀ G, Le Gq G → Rp G (.l [.g Gq (.ref (fs 0)), .g Gq (.ref n1), .g Gq (.ref n2), .g Gq (.ref n3)]) (.ref Lb) := fun G le => kl_up kLb eLb le
    refine Node.exK (hBr.mono leRq) fun mb_ tb_ mab hFb ux ux hib ux ux ux => ?_
    refine aP (wr := [82, 89]) (s₀ := s) (G₀ := G) ar ?hga
    refine aS fun QQ hqq => ?_
    refine BoolOp_and (az fq (d := .b true) m2 fun v sA GA fA leA rA => ?_)
    obtain rfl : v = .bool true := rA
    refine wpAny_truthy_bool ?_
    erw [if_pos rfl]
    refine BoolOp_and (dD fA (d := .b true) ?hcmp fun v sB GB fB leB rB => ?_)
    case hcmp =>
     have ne1 : n1 ≠ fs 0 := fun q => absurd (Node.tags hM1 (q ▸ hM0)) (by decide +kernel)
     have ne2 : n2 ≠ fs 0 := fun q => absurd (Node.tags hM2 (q ▸ hM0)) (by decide +kernel)
     have ne3 : n3 ≠ fs 0 := fun q => absurd (Node.tags hM3 (q ▸ hM0)) (by decide +kernel)
     refine Node.exK hM0 fun y0 t0 ux hF0 ht0 ux ux ux ux ux => ?_
     refine Node.exK hM1 fun y1 t1 ux hF1 ht1 ux ux ux ux ux => ?_
     refine Node.exK hM2 fun y2 t2 ux hF2 ht2 ux ux ux ux ux => ?_
     refine Node.exK hM3 fun y3 t3 ux hF3 ht3 ux ux ux ux ux => ?_
     refine ah (mw (ah (d' := .l (([eY 0, ("note":Str), ("note":Str), ("note":Str)] : List Str).map .s)) (bj (tagF (fs 0)) (fun ux => true) [] (fun d => [(("one":Str), d)]) (bg (by exact hA) (aZ (dd := .l [.g Gq (.ref (fs 0)), .g Gq (.ref n1), .g Gq (.ref n2), .g Gq (.ref n3)]) (aa m3) hFb hib (by decide +kernel) dJ hbl)) rfl (by decide +kernel) rfl (by decide +kernel) ?hcap ?has ?ht ?he (by simp)) ?hcvn) (ah (d' := .l (([("e0":Str), ("note":Str), ("note":Str), ("note":Str)] : List Str).map .s)) (bc (ab aT (ab aT (ab aT (ab aT ae)))) (by simp)) rfl) (kq (by decide +kernel) (by decide +kernel) (by show A.units + 3 + 64 < cLine; lia))) (congrArg D.b (by decide +kernel))
     case hcap => exact fun C h G hE => aV hE rfl rfl rfl cv
     case has => exact fun C e hd => ax rfl af
     case ht => exact fun C e hd => bD
     case he =>
      intro C e hd _
      simp only [List.mem_cons, List.not_mem_nil, or_false] at hd
      rcases hd with rfl | rfl | rfl | rfl
      · exact ah (aZ (dd := .s (eY 0)) (aa m0) hF0 ht0 (by decide +kernel) gv fun ux ux => ⟨_, rfl⟩) (by show D.s _ = D.s (if fs 0 = fs 0 then _ else _); erw [if_pos rfl])
      · exact ah (aZ (dd := .s ("note":Str)) (aa m0) hF1 ht1 (by decide +kernel) gv fun ux ux => ⟨_, rfl⟩) (by show D.s _ = D.s (if n1 = fs 0 then _ else _); erw [if_neg ne1])
      · exact ah (aZ (dd := .s ("note":Str)) (aa m0) hF2 ht2 (by decide +kernel) gv fun ux ux => ⟨_, rfl⟩) (by show D.s _ = D.s (if n2 = fs 0 then _ else _); erw [if_neg ne2])
      · exact ah (aZ (dd := .s ("note":Str)) (aa m0) hF3 ht3 (by decide +kernel) gv fun ux ux => ⟨_, rfl⟩) (by show D.s _ = D.s (if n3 = fs 0 then _ else _); erw [if_neg ne3])
     case hcvn =>
      show D.l [D.s (if fs 0 = fs 0 then _ else _), D.s (if n1 = fs 0 then _ else _), D.s (if n2 = fs 0 then _ else _), D.s (if n3 = fs 0 then _ else _)] = _
      erw [if_pos rfl, if_neg ne1, if_neg ne2, if_neg ne3]
      rfl
    obtain rfl : v = .bool true := rB
    refine wpAny_truthy_bool ?_
    erw [if_pos rfl]
    refine BoolOp_one (wpAny_Compare1 (az fB (d := .g Gq (.ref ta)) m1 fun v sC GC fC leC rC => ?_) (by with_unfolding_all rfl))
    obtain ⟨rfl, leC2⟩ := rC
    refine cZ fC (EvD.cons ad (EvD.cons aT EvD.nil)) (by simp) (Nat.le_of_ble_eq_true rfl) (ups fC) fun sD GD du fD leD ndu hsd => ?_
    refine aG fun Z kZ => ?_
    obtain ⟨_, _, odu, edu, kdu⟩ := fD.S _ (.head _)
    refine kZ ?_
    clear kZ Z
    have le7D : Le G₇ GD := le7e.tr (leE2.tr (leRq.tr (leC2.tr leD)))
    have fl3 : ∀ p ∈ eK, Mine.flat p.2 = true := by
     intro p hp
     simp only [List.mem_cons, List.not_mem_nil, or_false] at hp
     rcases hp with rfl | rfl
     · rfl
     · show PyData.strOk ("hand":Str) = true; decide +kernel
    refine gc hsm₃ hsd (fD.E.sub _ _ (le7D _ _ hta)) edu (DkO.mono le7D hot) kdu fl3 (by show A.units + 3 < cLine; lia) ?_
    refine hqq _ _ ?_
    refine cL (d := .b true) (ρ' := ((("good":Str), .b true) :: ("row", .g Gq (.ref rw_)) :: ("table", .g Gq (.ref ta)) :: ("bare", .g Gq (.ref ba)) :: ("lone", .g Gq (.ref lo)) :: docG g)) (fD.drop ndu) rfl aU fun sE fE => ?_
    refine wpAny_execs_cons (wpAny_Return_some ?_)
    refine aS fun QQ hqq => ?_
    refine Tuple_ ?_
    refine spliced_more ?_
    refine aS fun PP hpp => ?_
    refine dD fE (aF (k := 0) (d := .v (.ref (fs 0))) (nJ (d := .g Gq (.ref rw_)) (d' := .l ((List.range 6).map fun k => .v (.ref (fs k)))) (aa m1) ?hw) ad (by decide) (by decide) rfl) fun v sF GF fF leF rF => ?_
    case hw =>
     intro G v r
     obtain ⟨rfl, le⟩ := r
     refine aG fun Z kZ => ?_
     obtain ⟨vs, k, hv, rr⟩ := krw
     refine kZ ?_
     clear kZ Z
     exact ⟨rw_, vs, k, rfl, by rw [← hv]; exact le _ _ (leRq _ _ erw), rr.mono (leRq.tr le)⟩
    refine hpp _ _ ?_
    refine spliced_more ?_
    refine aS fun PP hpp => ?_
    refine (bU (aO (aa m0)) (bU ?i1 (bU ?i2 (bU ?i3 (e8 ?i4))))) _ _ _ _ fF fun v sG GG fG leG rG => ?_
    case i1 =>
     refine aG fun Z kZ => ?_
     obtain ⟨fdl, sll, ddl, ol, hl1, hl2, hl3⟩ := hFlo.mono (leE2.tr leRq)
     refine kZ ?_
     clear kZ Z
     exact bX (da := .b true) (db := .b true) (dQ (a := lo) (Gx := Gq) X T (by exact hA) (by exact hroom1) (m6 m1) m4 (fun h k => rq (k _ _ hl1) (hl3.ns1 (k _ _ hl2)).ns rfl) (by decide) rfl rfl) (aO d9) (dm dE)
    case i2 =>
     refine aG fun Z kZ => ?_
     obtain ⟨fdl, sll, ddl, ol, hl1, hl2, hl3⟩ := hFba.mono (leE2.tr leRq)
     refine kZ ?_
     clear kZ Z
     exact bX (da := .b false) (db := .b false) (dQ (a := ba) (Gx := Gq) X T (by exact hA) (by exact hroom1) (m6 m1) m3 (fun h k => oO (k _ _ hl1) (hl3.ns1 (k _ _ hl2)).ns (if_neg (by decide))) (by decide) rfl rfl) (aO d9) (dm dE)
    case i3 =>
     refine aG fun Z kZ => ?_
     obtain ⟨vs, k, hv, rr⟩ := krw
     refine kZ ?_
     clear kZ Z
     exact bX (da := .b false) (db := .b false) (dQ (a := rw_) (Gx := Gq) X T (by exact hA) (by exact hroom1) (m6 m1) m1 (fun h k => pF (by rw [← hv]; exact k _ _ (leRq _ _ erw))) (by decide) rfl rfl) (aO d9) (dm dE)
    case i4 =>
     exact bX (da := .b false) (db := .b false) (dQ (a := ta) (Gx := Gq) X T (by exact hA) (by exact hroom1) (m6 m1) m2 (fun h k => tag_dk (k _ _ (leRq _ _ (leE2 _ _ (le7e _ _ hta)))) hot) (by decide) rfl rfl) (aO d9) (dm dE)
    refine hpp _ _ ?_
    refine spliced_none ?_
    refine bx (ds := [.v (.ref (fs 0)), .b true]) fG.E.sub (rc (rF.mono leG) (rc rG rz)) (Nat.le_of_ble_eq_true rfl) fun v sH GH kH rH => ?_
    refine hqq _ _ ?_
    exact hQ _ _ _ fs Ls ats ((fG.go kH).eff (os := [(82, ay 86 10), (89, .o (tabObj #[]))]) (List.Sublist.refl _)) rH (hT.mono (leRq.tr (leC2.tr (leD.tr (leF.tr (leG.tr kH.le))))))
  case turn =>
   rintro i e ρi osi hdi ⟨Gs, fs, Ls, ats, leS, hF, rfl, rfl⟩
   rw [List.getElem?_mapIdx] at hdi
   obtain ⟨e', he', rfl⟩ := Option.map_eq_some_iff.mp hdi
   have hi : i < 6 := by
    have := (List.getElem?_eq_some_iff.mp he').1
    simpa [bb] using this
   have hpg := dY (par := par) (d := d) (w := w) (k := (i : Int)) (by lia) (by lia)
   rw [Int.toNat_natCast, he'] at hpg
   obtain rfl : _ := Option.some.inj hpg
   have hcg : cs[i]? = some (cs.getD i 0) := by
    erw [List.getD_eq_getElem?_getD, List.getElem?_eq_getElem (by lia), Option.getD_some]
   refine ⟨_, mP (by exact hA) (bd ar af (bd ar af bq)), fun wr s₀ G₀ s G E' f => ?_⟩
   refine aS fun Qt kQt => ?_
   have hlg : Le g.get? G := f.leOf (x := "_law_element") (m6 m4)
   have hls : Le Gs G := f.leOf (x := "table") m3
   refine aG fun Z kZ => ?_
   obtain ⟨Lp, kids, rest, hLp, hkl, hperm, hback⟩ := oB (rw_ := rw_) (Lb := Lb) (t1 := ay 86 10) (t2 := av) (fs := fs) (Ls := Ls) (fun k h1 h2 => hp k h1 (by lia)) hi
   refine kZ ?_
   clear kZ Z
   refine dy (wr := wr) (s₀ := s₀) (G₀ := G₀) (names := [("above":Str), ("tag":Str)]) ?hA3 ?h3 ?b3 ?c3
   case hA3 => exact hA
   case b3 => exact rfl
   case c3 => kernel_rfl
   refine Tuple_ ?_
   refine spliced_more ?_
   refine aS fun QQ hqq => ?_
   refine (om (os₁ := kz par rw_ Lb (ay 86 10) av i fs Ls) (os₂ := kz par rw_ Lb (ay 86 10) av i fs Ls) (c := decide ((i : Int) > 0)) (d := .v (.ref (if i = 0 then bk else fs (par i)))) (tstf_of (aj (aa m1) ad gu)) (fun hc => ?ia) (fun hc => ?ib)) _ _ _ _ f fun v s₂ G₂ f₂ le₂ r₂ => ?_
   case ia =>
    have hc : (i : Int) > 0 := of_decide_eq_true hc
    have hj := hp i (by lia) hi
    erw [if_neg (by lia)]
    refine fU (k := (par i : Int)) (a := rw_) (ds := (List.range i).map fun k => .v (.ref (fs k))) (aO (aa m2)) (au (k := 0) (aa m0) ad (by decide) (by decide) rfl) (List.Mem.head _) (by lia) (by lia) (by erw [List.length_map, List.length_range]; lia) ?_
    erw [if_neg (by lia), Int.toNat_natCast, List.getElem?_map, List.getElem?_range hj]
    rfl
   case ib =>
    have hc : ¬ (i : Int) > 0 := of_decide_eq_false hc
    erw [if_pos (by lia)]
    exact ld (d := .g Gs (.ref bk)) (aO (aa m5)) fun ux ux h => h.1
   refine hqq _ _ ?_
   refine spliced_more ?_
   refine aS fun QQ hqq => ?_
   refine dD f₂ (ag aT (jh (m6 (m6 m2)) (ab (aa m1) ae) (cl_str ?_)) (qZ (Nat.le_trans (oS i hi) (by erw [sizeLine_eq]; decide)))) fun v₃ s₃ G₃ f₃ le₃ r₃ => ?_
   · erw [Int.natAbs_natCast]
     exact Nat.lt_of_le_of_lt (Nat.log2_le_self i) (by lia)
   refine hqq _ _ ?_
   refine spliced_none ?_
   refine bx (ds := [.v (.ref (if i = 0 then bk else fs (par i))), .s (eY i)]) f₃.E.sub (rc (r₂.mono le₃) (rc r₃ rz)) (Nat.le_of_ble_eq_true rfl) fun v s₄ G₄ k₄ r₄ => ?_
   refine jN (f₃.go k₄) r₄ (aI ar af (aI ar af bq)) fun s₅ f₅ => ?_
   generalize hpf : (if i = 0 then bk else fs (par i)) = pf at f₅
   refine aP (wr := wr) (s₀ := s₀) (G₀ := G₀) ar ?h4
   refine aS fun QQ hqq => ?_
   refine IfExp_ ?_
   have main : ∀ (s₆ : Shared) (G₆ : Mem) (fe L' at_ : Addr), Le G₄ G₆ → f₅.here ((82, ay 86 10) :: (Lp, Kd.l (kids ++ [.v (.ref fe)])) :: (L', Kd.l []) :: (at_, Kd.d Challenge.rw_wb0032_01.row.prog w' (dsP d w ((cs.getD i 0) % 2 == 1) i)) :: rest) s₆ G₆ → Node G₆ fe (eY i) at_ L' → at_ ∉ wr → (at_ == sysModules) = false → QQ (.ref fe) s₆ := by
    intro s₆ G₆ fe L' at_ le₆ f₆ nd₆ na₆ hs₆
    refine hqq _ _ ?_
    have hmem := (hback fe L' (at_, Kd.d Challenge.rw_wb0032_01.row.prog w' (dsP d w ((cs.getD i 0) % 2 == 1) i))).mem_iff (a := (Lp, Kd.l (kids ++ [.v (.ref fe)])))
    have hmem := hmem.mp (.tail _ (.head _))
    refine Fm.fixK (f₆.perm (hback fe L' (at_, Kd.d Challenge.rw_wb0032_01.row.prog w' (dsP d w ((cs.getD i 0) % 2 == 1) i)))) na₆ fun G₇' f₇' le₇' oat eat kat => ?_
    have leE7 : Le Ge G₇' := leS.tr (hls.tr (le₂.tr (le₃.tr (k₄.le.tr (le₆.tr le₇')))))
    have leS7 : Le Gs G₇' := hls.tr (le₂.tr (le₃.tr (k₄.le.tr (le₆.tr le₇'))))
    refine cL (d := .v (.ref fe))  f₇' rfl af fun s₈ f₈ => ?_
    have f₈ := f₈.say2B ["one", "above", "table", "book"] (ρ' := ((("one":Str), .g G₇' (.ref fe)) :: ("above", .g G₇' (.ref pf)) :: ("tag", .s (eY i)) :: ("row", .v (.ref rw_)) :: ("table", .g G₇' (.ref ta)) :: ("good", .b true) :: ("book", .g G₇' (.ref bk)) :: ("bare", .g Ge (.ref ba)) :: ("lone", .g Ge (.ref lo)) :: ("turn", .i (i : Int)) :: ("part", .t [.i (par i : Int), .i (d i), .i (w i)]) :: qR g cs par d w))
    refine aP (wr := wr) (s₀ := s₀) (G₀ := G₀) ar ?h5
    refine aS fun QQ hqq => ?_
    refine IfExp_ ?_
    have main2 : ∀ (s₉ : Shared) (G₉ : Mem) (du : Addr), f₈.here ((du, Kd.d Challenge.rw_wb0032_01.row.prog w' (dsP d w ((cs.getD i 0) % 2 == 1) i)) :: (rw_, gW i fs) :: (82, ay 86 10) :: (89, av) :: (Lb, bkK (i + 1) (bK fs i fe)) :: inn par (i + 1) (bK fs i fe) (bK Ls i L')) s₉ G₉ → du ∉ wr → (du == sysModules) = false → QQ (.ref du) s₉ := by
     intro s₉ G₉ du f₉ nu hsu
     refine hqq _ _ ?_
     refine cL (d := .v (.ref du))  f₉ rfl af fun sA fA => ?_
     have hNf : Node G₇' fe (eY i) at_ L' := nd₆.mono le₇'
     have hNp' : ∃ ptag pat, Node G₇' pf ptag pat Lp := by
      rw [← hpf, hLp]
      by_cases h0 : i = 0
      · erw [if_pos h0, if_pos h0]
        exact ⟨_, _, hB.mono leE7⟩
      · erw [if_neg h0, if_neg h0]
        exact ⟨_, _, (hF _ (hp i (by lia) hi)).1.mono leS7⟩
     obtain ⟨ptag', pat', hNp'⟩ := hNp'
     refine Node.exK hNp' fun mp tp map hFp ux ux hip ux ux ux => ?_
     refine Node.exK hNf fun mf tf maf hFf htf haf ux ux ux ux => ?_
     have okt := nN i hi
     refine dk fA (d := .b true) (os₁ := (du, Kd.d Challenge.rw_wb0032_01.row.prog w' (dsP d w ((cs.getD i 0) % 2 == 1) i)) :: (rw_, gW i fs) :: (82, ay 86 10) :: (89, av) :: (Lb, bkK (i + 1) (bK fs i fe)) :: inn par (i + 1) (bK fs i fe) (bK Ls i L')) ?hgood ar (ρ' := ((("one":Str), .g G₇' (.ref fe)) :: ("good", .b true) :: ("row", .v (.ref rw_)) :: ("table", .g G₇' (.ref ta)) :: ("book", .g G₇' (.ref bk)) :: ("bare", .g Ge (.ref ba)) :: ("lone", .g Ge (.ref lo)) :: qR g cs par d w)) aU fun sB GB' fB' leB' => ?_
     case hgood =>
      refine bU (aO (aa (m6 m0))) (bU ?x1 (bU ?x2 (bU ?x3 (e8 ?x4))))
      case x1 =>
       refine bX (da := .v (.ref fe)) (db := .v (.ref fe)) (fU (k := -1) (a := Lp) (ds := kids ++ [.v (.ref fe)]) (aO (aZ (dd := .v (.ref Lp)) (aa m2) hFp hip (by decide +kernel) dJ fun ux ux => rfl)) (gI ad dT) (.tail _ ?hm) (by simp; lia) (by decide) (by simp; lia) ?hx) (ld (d := .g G₇' (.ref fe)) (aO (aa m1)) fun ux ux h => h.1) (dm kW)
       case hm =>
        rcases List.mem_cons.mp hmem with h | h
        · exact absurd h kl_ne
        · exact h
       case hx =>
        erw [if_pos (by decide), show (-1 + ((kids ++ [D.v (Value.ref fe)]).length : Int)).toNat = kids.length from by erw [List.length_append, List.length_singleton]; lia]
        simp
      case x2 =>
       refine cD (bX (aO (aZ (dd := .s (eY i)) (aa m1) hFf htf (by decide +kernel) gv fun ux ux => ⟨_, rfl⟩)) (aO (aa m3)) (dm (pI okt okt (by show A.units + 3 + 64 < cLine; lia)))) (by erw [beq_self_eq_true])
      case x3 =>
       refine bX (da := .g G₇' (.ref at_)) (db := .v (.ref du)) (aO (aZ (aa m1) hFf haf (by decide +kernel) dJ fun ux h => ⟨rfl, h⟩)) (aO (aa m0)) fun s G Q E a b f ra rb hQ => ?_
       obtain ⟨rfl, leq⟩ := ra
       obtain rfl : b = .ref du := rb
       refine aG fun Z kZ => ?_
       obtain ⟨_, _, odu, edu, kdu⟩ := f.S _ (.head _)
       refine kZ ?_
       clear kZ Z
       exact gc hs₆ hsu (f.E.sub _ _ (leq _ _ eat)) edu (DkO.mono leq kat) kdu (ds_flat d w _ i) (by show A.units + 3 < cLine; lia) (hQ _ s G f (Le.rf _) rfl)
      case x4 =>
       refine Fn.exK hFf fun fd' sl' dd' od' h1 h2 h3 => ?_
       exact bX (da := .b true) (db := .b true) (dQ (a := fe) (Gx := G₇') X T (by exact hA) (by exact hroom1) (m6 (m6 m4)) m1 (fun h k => rq (k _ _ h1) (h3.ns1 (k _ _ h2)).ns htf) (by decide) rfl rfl) (aO d9) (dm dE)
     refine c9 (d := .v (.ref fe)) (a := rw_) (ds := (List.range i).map fun k => .v (.ref (fs k))) (fB'.perm (pl1 _ _ _)) (aa m2) (nJ (d := .g G₇' (.ref fe)) (aa m0) fun ux ux h => h.1) (by erw [List.length_map, List.length_range]; lia) fun sC GC fC => ?_
     have fC := (fC.perm (pl1 _ _ _)).drop nu
     rw [← pC] at fC
     refine wpAny_execs_nil (kQt _ _ ⟨_, _, GC, ⟨G₇', _, _, bK ats i at_, leE7, (hF.mono leS7).succ hNf eat kat, rfl, rfl⟩, fC.say eS⟩)
    refine (aX (d' := ((cs.getD i 0) % 2 == 1)) (aj (ag (aF (k := (i : Int)) (d := .i (cs.getD i 0)) (aa (m6 m5)) (aa (m6 m3)) (by lia) (by lia) ?hxc) ad (ci (by exact hA) (by decide))) ad eA) ?hcv) s₈ G₇' _ _ f₈.E fun s₉ G₉ k₉ => ?_
    case hxc => erw [Int.toNat_natCast, List.getElem?_map, hcg]; rfl
    case hcv => erw [bv (by decide)]
    have f₉ := f₈.go k₉
    have hb₉ : (s₉.heap.objs.size == sysModules) = false := gj T fun b o e => f₉.E.sub _ _ (f₉.leOf (x := "SubElement") (m6 (m6 m2)) _ _ e)
    generalize hod : ((cs.getD i 0) % 2 == 1) = od at main2 ⊢
    cases od with
    | true =>
      erw [if_pos rfl]
      refine cZ f₉ (EvD.cons (au (k := 1) (aa (m6 m4)) ad (by decide) (by decide) rfl) (EvD.cons aT (EvD.cons (au (k := 2) (aa (m6 m4)) ad (by decide) (by decide) rfl) EvD.nil))) (by simp) (Nat.le_of_ble_eq_true rfl) hb₉ fun sA GA du fA leA nu hsu => ?_
      rw [ds_odd2] at fA
      exact main2 sA GA du fA nu hsu
    | false =>
      erw [if_neg (by decide)]
      refine cZ f₉ (EvD.cons (au (k := 1) (aa (m6 m4)) ad (by decide) (by decide) rfl) (EvD.cons (au (k := 2) (aa (m6 m4)) ad (by decide) (by decide) rfl) EvD.nil)) (by simp) (Nat.le_of_ble_eq_true rfl) hb₉ fun sA GA du fA leA nu hsu => ?_
      rw [pV] at fA
      exact main2 sA GA du fA nu hsu
   have ft := f₅.perm hperm
   have hNp : ∃ ptag pat, Node G₄ pf ptag pat Lp := by
    rw [← hpf, hLp]
    by_cases h0 : i = 0
    · erw [if_pos h0, if_pos h0]
      exact ⟨_, _, hB.mono (leS.tr (f.leOf (x := "table") m3) |>.tr (le₂.tr (le₃.tr k₄.le)))⟩
    · erw [if_neg h0, if_neg h0]
      exact ⟨_, _, (hF _ (hp i (by lia) hi)).1.mono (hls.tr (le₂.tr (le₃.tr k₄.le)))⟩
   obtain ⟨ptag, pat, hNp⟩ := hNp
   refine (aX (d' := ((cs.getD i 0) % 2 == 1)) (aj (ag (aF (k := (i : Int)) (d := .i (cs.getD i 0)) (aa (m6 m4)) (aa m3) (by lia) (by lia) ?hxc) ad (ci (by exact hA) (by decide))) ad eA) ?hcv) s₅ G₄ _ _ f₅.E fun s₇ G₇ k₇ => ?_
   case hxc => erw [Int.toNat_natCast, List.getElem?_map, hcg]; rfl
   case hcv => erw [bv (by decide)]
   have ft := ft.go k₇
   generalize hod : ((cs.getD i 0) % 2 == 1) = od at main ⊢
   cases od with
   | true =>
     erw [if_pos rfl]
     refine cj (kn := [("d":Str), ("w":Str)]) (dF := .g g.get? (.ref 63)) (ds := [.v (.ref pf), .s (eY i), .g Gs (.ref ta)]) (kds := [.i (d i), .i (w i)]) (o := _) (fd := _) ft (m6 (m6 m1)) (fun ux ux h => h.1) (fun s' G' f' => f'.E.sub _ _ (f'.leOf (x := "SubElement") (u := .ref 63) (Gs := g.get?) (m6 (m6 m1)) _ _ h63)) rfl (ab (aa m0) (ab (aa m1) (ab (aa m5) ae))) (bV (au (k := 1) (aa m2) ad (by decide) (by decide) rfl) (bV (au (k := 2) (aa m2) ad (by decide) (by decide) rfl) bl)) fun s₈ G₈ vs ks f₈ le₈ rv rk => ?_
     have lev3 : Le Gs G₈ := f₈.leOf (x := "table") m5
     refine qn (A := A.deeper _) X T C hA hroom f₈.E.sub (f₈.leOf (x := "SubElement") (m6 (m6 m1))) (rtl rv fun r h => rtl h fun r h => rgv h) rk (hNp.mono (k₇.le.tr le₈)) (lev3 _ _ (leS _ _ (le7e _ _ hta))) (hot.mono (le7e.tr (leS.tr lev3))) hsm₃ (Nat.le_of_ble_eq_true rfl) hkl (Held.left (os := [(82, ay 86 10), (Lp, Kd.l kids)]) f₈.held) fun s₉ G₉ fe L' at_ ef nd fr hs => ?_
     refine main s₉ G₉ fe L' at_ ((k₇.le.tr le₈).tr ef.K.le) ?_ nd (f₈.notin ef.fresh4) hs
     have f₉ := f₈.called (os := [(82, ay 86 10), (Lp, Kd.l kids)]) ef fun b hb ux => ?_
     · rw [ds_odd] at f₉; exact f₉
     · rcases List.mem_cons.mp hb with h | h
       · erw [h]; exact .head _
       · erw [List.mem_singleton.mp h]; exact .tail _ (.head _)
   | false =>
     erw [if_neg (by decide)]
     refine cj (kn := [("d":Str), ("w":Str)]) (dF := .g g.get? (.ref 63)) (ds := [.v (.ref pf), .s (eY i)]) (kds := [.i (d i), .i (w i)]) (o := _) (fd := _) ft (m6 (m6 m1)) (fun ux ux h => h.1) (fun s' G' f' => f'.E.sub _ _ (f'.leOf (x := "SubElement") (u := .ref 63) (Gs := g.get?) (m6 (m6 m1)) _ _ h63)) rfl (ab (aa m0) (ab (aa m1) ae)) (bV (au (k := 1) (aa m2) ad (by decide) (by decide) rfl) (bV (au (k := 2) (aa m2) ad (by decide) (by decide) rfl) bl)) fun s₈ G₈ vs ks f₈ le₈ rv rk => ?_
     refine ct_subk (A := A.deeper _) X T C hA hroom f₈.E.sub (f₈.leOf (x := "SubElement") (m6 (m6 m1))) rv rk (hNp.mono (k₇.le.tr le₈)) hkl (Held.left (os := [(82, ay 86 10), (Lp, Kd.l kids)]) f₈.held) fun s₉ G₉ fe L' at_ ef nd fr hs => ?_
     refine main s₉ G₉ fe L' at_ ((k₇.le.tr le₈).tr ef.K.le) ?_ nd (f₈.notin ef.fresh4) hs
     have f₉ := f₈.called (os := [(82, ay 86 10), (Lp, Kd.l kids)]) ef fun b hb ux => ?_
     · rw [ds_even] at f₉; exact f₉
     · rcases List.mem_cons.mp hb with h | h
       · erw [h]; exact .head _
       · erw [List.mem_singleton.mp h]; exact .tail _ (.head _)
set_option tactic.hygienic false
set_option maxRecDepth 100000
noncomputable def vw : Program := { Challenge.pw_wb0032_01 with main := { Challenge.pw_wb0032_01.main with body := [4, 5, 6, 8, 11, 12, 13, 14, 15, 16, 17, 18, 19, 20].filterMap fun i => Challenge.pw_wb0032_01.main.body[i]? } }
noncomputable def hk : Hook := kmHook hd.heap_39 [3, 15, 16, 22, 23, 24, 25, 31, 32, 33, 39, 40, 46, 47, 53, 54, 55, 56, 62, 63, 67, 68, 74, 75, 79, 80, 86, 87, 91, 92, 98, 99, 105, 106, 110, 111, 115, 116, 120, 121] (fun ux => by kernel_rfl) [82, 89, 118]
theorem said : OpenLaw.wellSaid Challenge.rw_wb0032_01 = true := by kernel_rfl
noncomputable def lse : List Str := ["bisect_right", "bisect_left", "COMPILER_FLAG_NAMES", "SubElement"]
noncomputable def Xt : Shared → Bool := fun s => xlAt vw [] s && recOk Challenge.rw_wb0032_01.row.toRowW.records s
theorem left : LeftO Challenge.rw_wb0032_01.row.prog vw lse Xt hk.obs hk.val 1472 :=
 LeftO.of_split "special-get-raises" fun w => by kernel_rfl
noncomputable def dLaw : DefRec := match (Challenge.pw_wb0032_01.main.body[20]? : Option Stmt) with
 | some (.FunctionDef n a b _ _ _ s _ _ p) => ⟨n, a, b, s, p⟩
 | _ => ⟨default, default, default, default, default⟩
theorem hdef : defOf vw Challenge.rw_wb0032_01.row.name = some (dLaw, []) := by kernel_rfl
theorem hthe : Challenge.rw_wb0032_01.row.prog.theDef Challenge.rw_wb0032_01.row.name = some (dLaw.params, dLaw.body, dLaw.scope) := by kernel_rfl
theorem hkww : kwWritten? dLaw.params.kwonlyargs dLaw.params.kw_defaults = some [] := by kernel_rfl
theorem hok : (chainsOk vw && opensWell Challenge.rw_wb0032_01.row.prog && (frees Challenge.rw_wb0032_01.row.toRowW && Challenge.rw_wb0032_01.row.within.isEmpty)) = true := by kernel_rfl
set_option tactic.hygienic false
noncomputable def bP (o : Obj) : Kd := .p (fun ux o' => ∃ sl, o' = { o with slots := sl }) fun ux ux ux ux h => h
structure Thr (Ls : List Addr) (h₀ : Heap) (e t : Addr) (ot : Obj) (X : String) (fl : Value) (h : Heap) : Prop where
 keep : ∀ b o, b ∉ Ls → h₀.get? b = some o → h.get? b = some o
 slot : ∀ b o, h₀.get? b = some o → ∃ sl, h.get? b = some { o with slots := sl }
 fe : h₀.get? e = none
 tt : t ≠ e ∧ h₀.get? t = none ∧ h.get? t = some ot
 ex : ∃ oe vs T oT ts, h.get? e = some oe ∧ oe.cls = .type X ∧ oe.data = .fields vs ∧ vs[0]? = some (.ref t) ∧ vs[1]? = some (.ref T) ∧ h₀.get? T = none ∧ T ≠ e ∧ T ≠ t ∧ h.get? T = some oT ∧ oT.data = .fields ts ∧ ts[3]? = some fl
structure Mad (Ls : List Addr) (h₀ : Heap) (e t : Addr) (ot : Obj) (X : String) (h : Heap) : Prop where
 keep : ∀ b o, b ∉ Ls → h₀.get? b = some o → h.get? b = some o
 slot : ∀ b o, h₀.get? b = some o → ∃ sl, h.get? b = some { o with slots := sl }
 fe : h₀.get? e = none
 tt : t ≠ e ∧ h₀.get? t = none ∧ h.get? t = some ot
 ex : ∃ oe vs, h.get? e = some oe ∧ oe.cls = .type X ∧ oe.data = .fields vs ∧ vs[0]? = some (.ref t) ∧ vs[1]? = some .none
noncomputable def StkE (Ls : List Addr) (h : Heap) (en : Env) : Prop := en.scope.kind ≠ .module ∧ ∃ L o, en.frame = some L ∧ L ∈ Ls ∧ h.get? L = some o ∧ ∀ vs, o.data ≠ .fields vs
noncomputable def Stk (Ls : List Addr) (h : Heap) (ens : List Env) : Prop := ∀ en ∈ ens, StkE Ls h en
theorem iq {Ls : List Addr} {h₀ h : Heap} (k : ∀ b o, h₀.get? b = some o → ∃ sl, h.get? b = some { o with slots := sl }) : ∀ {ens : List Env}, Stk Ls h₀ ens → h.FunFrames {} ens
 | [], _ => trivial
 | en :: ens, st => by
   obtain ⟨hk, L, o, hf, _, ho, hd⟩ := st en (.head _)
   obtain ⟨sl, e⟩ := k L o ho
   exact ⟨hk, ⟨L, _, hf, by cases q : ({} : Heap).get? L with
    | none => rfl
    | some o => exact absurd (Heap.lt_size q) (Nat.not_lt_zero _), e, hd⟩, iq k fun x hx => st x (.tail _ hx)⟩
theorem stk_sub {Ls : List Addr} {h : Heap} {ens : List Env} (st : Stk Ls h ens) : ∀ b ∈ ens.filterMap (·.frame), b ∈ Ls := by
 intro b hb
 obtain ⟨en, he, hf⟩ := List.mem_filterMap.mp hb
 obtain ⟨_, L, o, hf', hL, _⟩ := st en he
 rw [hf] at hf'
 cases hf'
 exact hL
section
variable {M : Model} {A : Around} {E : Value → Shared → Prop} {s : Shared} {Ls : List Addr} {h₀ : Heap} {e t : Addr} {ot : Obj} {X : String}
theorem jb {env : Env} {outer : List Env} {L : Addr} {head : Value} {hadNext : Bool} {oe : Obj} {vs : Array Value} {Q : Unit → Shared → Prop} (hfr : A.frames = some (env :: outer)) (st : Stk Ls h₀ (env :: outer)) (hf : env.frame = some L)
 (keep : ∀ b o, b ∉ Ls → h₀.get? b = some o → s.heap.get? b = some o) (slot : ∀ b o, h₀.get? b = some o → ∃ sl, s.heap.get? b = some { o with slots := sl }) (fe : h₀.get? e = none) (tt : t ≠ e ∧ h₀.get? t = none ∧ s.heap.get? t = some ot)
 (he : s.heap.get? e = some oe) (hc : oe.cls = .type X) (hd : oe.data = .fields vs) (h0 : vs[0]? = some (.ref t)) (h1 : 1 < vs.size)
 (h : ∀ h', Thr Ls h₀ e t ot X (rawInt L) h' → Q () { s with heap := h' }) :
 wpAny M A (do let a ← frameOf env; let pl ← entryPlaceOf L hadNext; let b ← EntryCells.newEntry head a .none (rawInt L) .none pl; setField (.ref e) 1 b) Q E s := by
 have hl := iq slot st
 have hes : e ∉ (env :: outer).filterMap (·.frame) := fun hm => by
  obtain ⟨_, o, ho, hnf⟩ := hl.mem hm
  rw [he] at ho; cases ho; exact hnf vs hd
 refine wpAny_bind (wpAny_frameOf_fun hfr hl hf fun h₁ hs₁ => ?_)
 refine wpAny_bind (wpAny_entryPlaceOf fun pl hpl => ?_)
 unfold EntryCells.newEntry newFields
 refine wpAny_bind (wpAny_newObj_type ?_ (hpl.sizeOk5 _ _ _ _ _))
 have he₁ : h₁.get? e = some oe := (hs₁.2.1 e hes).trans he
 generalize hTO : ({ cls := .type "traceback", dict := none, data := .fields ([head, .ref L, .none, rawInt L, .none] ++ (if pl.isEmpty then List.replicate 6 Value.none else pl)).toArray } : Obj) = TO
 have he₂ := Heap.get?_push_of_some TO he₁
 have hTe : h₁.objs.size ≠ e := Nat.ne_of_gt (Heap.lt_size he₁)
 have hT₂ := Heap.get?_push_size (o := TO) h₁ (by rw [← hTO]; rfl)
 have hd₃ := Obj.data_mapFields hd (·.setIfInBounds 1 (Value.ref h₁.objs.size))
 have he₃ := Heap.get?_update_self (Obj.mapFields (·.setIfInBounds 1 (Value.ref h₁.objs.size))) he₂ (Obj.isFreed_of_fields hd₃)
 have hsz : h₁.objs.size = s.heap.objs.size := hs₁.1
 have fT : h₀.get? h₁.objs.size = none := by
  cases q : h₀.get? h₁.objs.size with
  | none => rfl
  | some o =>
    obtain ⟨sl, z⟩ := slot _ _ q
    have z := Heap.lt_size z
    rw [hsz] at z
    exact absurd z (Nat.lt_irrefl _)
 have far : ∀ b o, b ≠ e → h₁.get? b = some o → ((h₁.push TO).update e (Obj.mapFields (·.setIfInBounds 1 (Value.ref h₁.objs.size)))).get? b = some o := fun b o hb q => by
  erw [Heap.get?_update_other _ _ (Ne.symm hb)]
  exact Heap.get?_push_of_some _ q
 have sub := stk_sub st
 refine wpAny_setField he₂ hd h1 (h _ ⟨fun b o hb q => ?_, fun b o q => ?_, fe, ⟨tt.1, tt.2.1, ?_⟩, ?_⟩)
 · have nb : b ≠ e := fun z => by rw [z, fe] at q; cases q
   exact far b o nb ((hs₁.2.1 b fun z => hb (sub b z)).trans (keep b o hb q))
 · have nb : b ≠ e := fun z => by rw [z, fe] at q; cases q
   obtain ⟨sl, q₁⟩ := slot b o q
   obtain ⟨sl', q₂⟩ := hs₁.2.2 b _ q₁
   exact ⟨sl', far b _ nb q₂⟩
 · refine far t ot tt.1 ((hs₁.2.1 t fun z => ?_).trans tt.2.2)
   obtain ⟨en, hen, hf'⟩ := List.mem_filterMap.mp z
   obtain ⟨_, L', o, hf'', _, hL', _⟩ := st en hen
   rw [hf'] at hf''
   cases hf''
   rw [tt.2.1] at hL'
   cases hL'
 · have hTt : h₁.objs.size ≠ t := fun q => by
    have z := Heap.lt_size tt.2.2
    rw [← q, hsz] at z
    exact absurd z (Nat.lt_irrefl _)
   refine ⟨_, _, h₁.objs.size, TO, _, he₃, (Obj.cls_mapFields _ _).trans hc, hd₃, by erw [Array.getElem?_setIfInBounds_ne (by decide)]; exact h0, by simp [h1], fT, hTe, hTt, (Heap.get?_update_other _ _ (Ne.symm hTe)).trans hT₂, by rw [← hTO], ?_⟩
   simp
theorem oq {env : Env} {outer : List Env} {L : Addr} {Q : Unit → Shared → Prop} (hfr : A.frames = some (env :: outer)) (st : Stk Ls h₀ (env :: outer)) (hf : env.frame = some L) (m : Mad Ls h₀ e t ot X s.heap)
 (h : ∀ h', Thr Ls h₀ e t ot X (rawInt L) h' → Q () { s with heap := h' }) : wpAny M A (noteFrame (.ref e) env) Q E s := by
 obtain ⟨oe, vs, he, hc, hd, h0, h1⟩ := m.ex
 unfold noteFrame
 simp only [hf]
 refine wpAny_bind (wpAny_field he hd h1 ?_)
 erw [if_neg (by decide)]
 exact jb hfr st hf m.keep m.slot m.fe m.tt he hc hd h0 (Array.getElem?_eq_some_iff.mp h1).1 h
theorem lw {env : Env} {outer : List Env} {L : Addr} {Q : Unit → Shared → Prop} (hfr : A.frames = some (env :: outer)) (st : Stk Ls h₀ (env :: outer)) (hf : env.frame = some L) (m : Thr Ls h₀ e t ot X .none s.heap)
 (h : ∀ h', Thr Ls h₀ e t ot X (rawInt L) h' → Q () { s with heap := h' }) : wpAny M A (noteFrame (.ref e) env) Q E s := by
 obtain ⟨oe, vs, T, oT, ts, he, hc, hd, h0, h1, nT, hTe, hTt, hT, hdT, h3⟩ := m.ex
 unfold noteFrame
 simp only [hf]
 refine wpAny_bind (wpAny_field he hd h1 ?_)
 erw [if_pos (show (Value.ref T != Value.none) = true from by simp)]
 refine wpAny_bind (wpAny_field hT hdT h3 ?_)
 erw [if_neg (show ¬ ((Value.none == rawInt L) = true) from by simp [rawInt])]
 refine wpAny_bind (wpAny_setField hT hdT (Array.getElem?_eq_some_iff.mp h3).1 ?_)
 have other : ∀ b, b ≠ T → (s.heap.update T (Obj.mapFields (·.setIfInBounds 3 Value.none))).get? b = s.heap.get? b := fun b hb => Heap.get?_update_other _ _ (Ne.symm hb)
 have nb : ∀ {b o}, h₀.get? b = some o → b ≠ T := fun q z => by rw [z, nT] at q; cases q
 refine jb hfr st hf (fun b o hb q => (other b (nb q)).trans (m.keep b o hb q)) (fun b o q => ?_) m.fe ⟨m.tt.1, m.tt.2.1, (other t (Ne.symm hTt)).trans m.tt.2.2⟩ ((other e (Ne.symm hTe)).trans he) hc hd h0 (Array.getElem?_eq_some_iff.mp h1).1 h
 · obtain ⟨sl, z⟩ := m.slot b o q
   exact ⟨sl, (other b (nb q)).trans z⟩
theorem oI {env : Env} {L : Addr} {Q : Unit → Shared → Prop} (hf : env.frame = some L) (m : Thr Ls h₀ e t ot X (rawInt L) s.heap) (h : Q () s) : wpAny M A (noteFrame (.ref e) env) Q E s := by
 obtain ⟨oe, vs, T, oT, ts, he, hc, hd, h0, h1, nT, hTe, hTt, hT, hdT, h3⟩ := m.ex
 exact wpAny_noteFrame_inFlight hf he hd h1 hT hdT h3 h
theorem ch {fl : Value} {fr : Option Addr} {Q : Unit → Shared → Prop} (m : Thr Ls h₀ e t ot X fl s.heap) (h : ∀ h', Thr Ls h₀ e t ot X (fr.elim .none fun f => rawInt f) h' → Q () { s with heap := h' }) : wpAny M A (setFlight (.ref e) fr) Q E s := by
 obtain ⟨oe, vs, T, oT, ts, he, hc, hd, h0, h1, nT, hTe, hTt, hT, hdT, h3⟩ := m.ex
 have hsz3 : 3 < ts.size := (Array.getElem?_eq_some_iff.mp h3).1
 have other : ∀ b, b ≠ T → (s.heap.update T (Obj.mapFields (·.setIfInBounds 3 (fr.elim Value.none fun f => rawInt f)))).get? b = s.heap.get? b := fun b hb => Heap.get?_update_other _ _ (Ne.symm hb)
 have nb : ∀ {b o}, h₀.get? b = some o → b ≠ T := fun q z => by rw [z, nT] at q; cases q
 unfold setFlight
 refine wpAny_bind (wpAny_field he hd h1 ?_)
 erw [if_pos (show (Value.ref T != Value.none) = true from by simp)]
 refine wpAny_setField hT hdT hsz3 (h _ ⟨fun b o hb q => (other b (nb q)).trans (m.keep b o hb q), fun b o q => ?_, m.fe, ⟨m.tt.1, m.tt.2.1, (other t (Ne.symm hTt)).trans m.tt.2.2⟩, ?_⟩)
 · obtain ⟨sl, z⟩ := m.slot b o q
   exact ⟨sl, (other b (nb q)).trans z⟩
 · exact ⟨oe, vs, T, _, _, (other e (Ne.symm hTe)).trans he, hc, hd, h0, h1, nT, hTe, hTt, Heap.get?_update_self _ hT (Obj.isFreed_of_fields (Obj.data_mapFields hdT _)), Obj.data_mapFields hdT _, by simp [hsz3]⟩
theorem ej {env : Env} {outer : List Env} {L : Addr} {Q : Unit → Shared → Prop} (hfr : A.frames = some (env :: outer)) (st : Stk Ls h₀ (env :: outer)) (hf : env.frame = some L) (m : Mad Ls h₀ e t ot X s.heap)
 (h : ∀ h', Thr Ls h₀ e t ot X .none h' → Q () { s with heap := h' }) : wpAny M A (leaving env (.ref e)) Q E s := by
 unfold leaving
 refine wpAny_bind (oq hfr st hf m fun h' x => ?_)
 exact ch (s := { s with heap := h' }) x fun h'' x' => h h'' x'
theorem qb {env : Env} {fl : Value} {L : Addr} {E' : Value → Shared → Prop} (hf : env.frame = some L) (m : Thr Ls h₀ e t ot X fl s.heap) (h : ∀ h', Thr Ls h₀ e t ot X (rawInt L) h' → E' (.ref e) { s with heap := h' }) : cameBackBy M A env E' (.ref e) s := by
 obtain ⟨oe, vs, T, oT, ts, he, hc, hd, h0, h1, nT, hTe, hTt, hT, hdT, h3⟩ := m.ex
 unfold cameBackBy
 refine wpAny_bind (wpAny_field he hd h1 ?_)
 erw [if_neg (by simp)]
 erw [hf]
 exact ch m fun h' x => h h' x
end
set_option tactic.hygienic false
section
variable {prog : Program} {w : World} {A : Around} {wr : List Addr} {s₀ s s' : Shared} {G₀ G G' : Mem} {env : Env} {ρ ρ' ρ₁ : List (Str × D)} {os os' rest : List (Addr × Kd)}
theorem Fm.fresh_far (f : Fm wr s₀ G₀ env ρ os s G) {L : Addr} (h : s.heap.get? L = none) : L ∉ far env ∧ L ∉ os.map (·.1) ∧ s₀.heap.get? L = none := by
 refine ⟨fun hm => ?_, fun hm => ?_, ?_⟩
 · rcases List.mem_cons.mp hm with q | hm
   · obtain ⟨m, o, _, _, e, _⟩ := f.E.gl
     rw [← q, h] at e; cases e
   · rcases List.mem_cons.mp hm with q | hm
     · obtain ⟨m, o, _, _, e, _⟩ := f.E.bu
       rw [← q, h] at e; cases e
     · obtain ⟨_, o, e⟩ := f.out (List.mem_append_left _ hm)
       rw [h] at e; cases e
 · obtain ⟨_, o, e⟩ := f.out (List.mem_append_right _ hm)
   rw [h] at e; cases e
 · cases z : s₀.heap.get? L with
   | none => rfl
   | some o => rw [f.K.hp L o (f.notin h) z] at h; cases h
theorem pT {a : Addr} {k k' : Kd} : ∀ {l : List (Addr × Kd)}, (l.map (·.1)).Nodup → (a, k) ∈ l → (a, k') ∈ l → k = k'
 | (b, kb) :: l, hn, h, h' => by
   rw [List.map_cons, List.nodup_cons] at hn
   rcases List.mem_cons.mp h with q | q
   · rcases List.mem_cons.mp h' with q' | q'
     · rw [← q] at q'; cases q'; rfl
     · cases q; exact absurd (List.mem_map_of_mem (f := fun (x : Addr × Kd) => x.1) q') hn.1
   · rcases List.mem_cons.mp h' with q' | q'
     · cases q'; exact absurd (List.mem_map_of_mem (f := fun (x : Addr × Kd) => x.1) q) hn.1
     · exact pT hn.2 q q'
theorem Fm.thr {Ls : List Addr} {h' : Heap} {tk : Nat} (f : Fm wr s₀ G₀ env ρ os s G) (keep : ∀ b o, b ∉ Ls → s.heap.get? b = some o → h'.get? b = some o) (slot : ∀ b o, s.heap.get? b = some o → ∃ sl, h'.get? b = some { o with slots := sl })
 (hLs : ∀ L ∈ Ls, L = env.locals ∨ (∃ o, (L, bP o) ∈ os) ∨ (L ∉ far env ∧ L ∉ os.map (·.1) ∧ s₀.heap.get? L = none ∧ G L = none)) : Fm wr s₀ G₀ env ρ os { s with heap := h', toks := tk } G := by
 have gn : ∀ L ∈ Ls, G L = none := fun L hL => by
  rcases hLs L hL with rfl | ⟨o, h⟩ | h
  · exact f.O.gn
  · exact (f.S _ h).1
  · exact h.2.2.2
 have base : ∀ L ∈ Ls, L ∈ wr ∨ s₀.heap.get? L = none := fun L hL => by
  rcases hLs L hL with rfl | ⟨o, h⟩ | h
  · exact f.F _ (List.mem_append_left _ (.head _))
  · exact f.F _ (List.mem_append_right _ (List.mem_map_of_mem (f := fun (x : Addr × Kd) => x.1) h))
  · exact .inr h.2.2.1
 have nsl : ∀ {m}, s.heap.Ns env.locals m → h'.Ns env.locals m := fun ⟨o, es, ep, e, d, r⟩ => by
  obtain ⟨sl, e'⟩ := slot _ _ e
  exact ⟨_, es, ep, e', d, r⟩
 have ng : env.globals ∉ Ls := fun h => by
  rcases hLs _ h with q | ⟨o, q⟩ | q
  · exact f.O.gl q.symm
  · exact (f.S _ q).2.1 (.head _)
  · exact q.1 (.head _)
 have nb : env.builtins ∉ Ls := fun h => by
  rcases hLs _ h with q | ⟨o, q⟩ | q
  · exact f.O.bu q.symm
  · exact (f.S _ q).2.1 (.tail _ (.head _))
  · exact q.1 (.tail _ (.head _))
 have nc : ∀ {x c}, (x, c) ∈ env.cells → c ∉ Ls := fun {x c} hx h => by
  have hm : c ∈ far env := .tail _ (.tail _ (.tail _ (List.mem_map_of_mem (f := fun (x : Str × Addr) => x.2) hx)))
  rcases hLs _ h with q | ⟨o, q⟩ | q
  · obtain ⟨m, o, es, ep, e, d, _⟩ := f.O.ns
    obtain ⟨v, o', e', hc⟩ := (f.O.cel x c hx).1
    rw [q, e] at e'
    cases e'
    rw [d] at hc
    cases hc
  · exact (f.S _ q).2.1 hm
  · exact q.1 hm
 have kg : ∀ o, s.heap.get? env.globals = some o → h'.get? env.globals = some o := fun o => keep _ o ng
 have kb : ∀ o, s.heap.get? env.builtins = some o → h'.get? env.builtins = some o := fun o => keep _ o nb
 have kc : ∀ {x c}, (x, c) ∈ env.cells → ∀ o, s.heap.get? c = some o → h'.get? c = some o := fun {x c} hx o => keep _ o (nc hx)
 refine ⟨⟨?_, f.K.le, fun b o e => keep b o (fun h => by rw [gn b h] at e; cases e) (f.K.sub b o e), f.K.new⟩, ⟨f.E.fn, ?_, ?_, fun b o e => keep b o (fun h => by rw [gn b h] at e; cases e) (f.E.sub b o e), fun p hp => ?_⟩, ⟨?_, f.O.gn, f.O.gl, f.O.bu, f.O.fn, fun x c hx => ⟨?_, (f.O.cel x c hx).2⟩, f.O.ap⟩, fun p hp => ?_, f.N, f.F, f.W⟩
 · obtain ⟨h, t, e, k⟩ := f.K.k
   subst e
   refine ⟨h', tk, rfl, fun b o hb q => keep b o (fun z => ?_) (k b o hb q)⟩
   rcases base b z with y | y
   · exact hb y
   · rw [y] at q; cases q
 · obtain ⟨m, n⟩ := f.E.gl; exact ⟨m, n.at' kg⟩
 · obtain ⟨m, n⟩ := f.E.bu; exact ⟨m, n.at' kb⟩
 · obtain ⟨u, hl, hu⟩ := f.E.at' p hp
   refine ⟨u, ?_, hu⟩
   cases hl with
   | loc x b c => exact .loc x (nsl b) c
   | cel x b c => obtain ⟨o, e, q⟩ := c; exact .cel x b ⟨o, kc (aJ b) _ e, q⟩
   | fre x b c n => obtain ⟨o, e, q⟩ := c; exact .fre x b ⟨o, kc (aJ b) _ e, q⟩ n
   | glo x b c => exact .glo x (b.at' kg) c
   | bui x b c d e => exact .bui x (b.at' kg) c (d.at' kb) e
   | glN x b c => exact .glN x (b.at' kg) c
   | buN x b c d e => exact .buN x (b.at' kg) c (d.at' kb) e
 · obtain ⟨m, n⟩ := f.O.ns; exact ⟨m, nsl n⟩
 · obtain ⟨v, o, e, q⟩ := (f.O.cel x c hx).1
   exact ⟨v, o, kc hx _ e, q⟩
 · obtain ⟨g, n, o, e, k⟩ := f.S p hp
   refine ⟨g, n, ?_⟩
   by_cases hL : p.1 ∈ Ls
   · rcases hLs _ hL with q | ⟨o', q⟩ | q
     · exact absurd (by erw [q]; exact .tail _ (.tail _ (.head _))) n
     · obtain ⟨sl, e'⟩ := slot _ _ e
       have hk : p.2 = bP o' := pT f.N (show (p.1, p.2) ∈ os from hp) q
       rw [hk] at k ⊢
       obtain ⟨sl', rfl⟩ := k
       exact ⟨_, e', sl, rfl⟩
     · exact absurd (List.mem_map_of_mem hp) q.2.1
   · exact ⟨o, keep _ _ hL e, k⟩
theorem Fm.calledL {oL : Obj} (f : Fm wr s₀ G₀ env ρ (os ++ rest) s G) (hl : s.heap.get? env.locals = some oL) (e : Eff ((env.locals, bP oL) :: os) ((env.locals, bP oL) :: os') s G s' G') (hw : ∀ b ∈ os.map (·.1), b ∈ wr → b ∈ os'.map (·.1)) : Fm wr s₀ G₀ env ρ (os' ++ rest) s' G' := by
 obtain ⟨gL, o', eL, sl, rfl⟩ := e.H.1 _ (.head _)
 have so := Heap.SlotsOnly.update eL fun ux => oL.slots
 generalize hh : s'.heap.update env.locals (fun o => { o with slots := oL.slots }) = h'' at so
 have e2 : h''.get? env.locals = some oL := by
  obtain ⟨sl', z⟩ := so.2.2 _ _ eL
  rw [← hh]
  have := Heap.get?_update_self (fun o => { o with slots := oL.slots }) eL (by
   have hx := (Heap.get?_some_iff.mp hl).2
   obtain ⟨c, d, dt, s0⟩ := oL
   cases dt <;> first | rfl | (simp [Obj.isFreed] at hx))
  exact this
 have nd : env.locals ∉ os'.map (·.1) := (List.nodup_cons.mp e.H.2).1
 have far : ∀ b, b ≠ env.locals → h''.get? b = s'.heap.get? b := fun b hb => so.2.1 b fun q => hb (List.mem_singleton.mp q)
 have E2 : Eff os os' s G { s' with heap := h'' } G' := by
  refine ⟨⟨?_, e.K.le, fun b o q => ?_, e.K.new⟩, ⟨fun p hp => ?_, (List.nodup_cons.mp e.H.2).2⟩, fun p hp => ?_⟩
  · obtain ⟨h, t, q, k⟩ := e.K.k
    refine ⟨h'', t, by erw [q], fun b o hb z => ?_⟩
    by_cases hbL : b = env.locals
    · rw [hbL] at z ⊢; rw [hl] at z; cases z; exact e2
    · erw [far b hbL, q]
      exact k b o (fun m => by
       rcases List.mem_cons.mp m with y | y
       · exact hbL y
       · exact hb y) z
  · show h''.get? b = some o
    erw [far b fun z => by rw [z, gL] at q; cases q]
    exact e.K.sub b o q
  · obtain ⟨g, o, eo, k⟩ := e.H.1 p (.tail _ hp)
    refine ⟨g, o, ?_, k⟩
    show h''.get? p.1 = some o
    erw [far _ fun z => nd (z ▸ List.mem_map_of_mem hp)]
    exact eo
  · rcases e.new p (.tail _ hp) with q | q
    · rcases List.mem_cons.mp q with y | y
      · exact absurd (by rw [← show p.1 = env.locals from y]; exact List.mem_map_of_mem hp) nd
      · exact .inl y
    · exact .inr q
 have f2 := f.called E2 hw
 have f3 := f2.thr (Ls := [env.locals]) (h' := s'.heap) (tk := s'.toks) (fun b o hb z => by
  rw [← far b fun y => hb (by erw [y]; exact .head _)]; exact z) (fun b o z => by
  by_cases hb : b = env.locals
  · rw [hb] at z ⊢
    rw [show h''.get? env.locals = some o from z] at e2
    cases e2
    exact ⟨sl, eL⟩
  · exact ⟨o.slots, by rw [← far b hb]; exact z⟩) fun L hL => .inl (List.mem_singleton.mp hL)
 exact f3
end
set_option tactic.hygienic false
noncomputable def itK (l : Addr) (i : Nat) : Kd := .p (fun ux o => o.cls = .type "list_iterator" ∧ o.data = .fields #[.ref l, .int i 0]) fun ux ux ux ux h => h
noncomputable def iL : Kd := .p (fun ux ux => True) fun ux ux ux ux h => h
section
variable {prog : Program} {w : World} {A : Around} {s : Shared} {E : Value → Shared → Prop}
theorem nW {it l : Addr} {i : Nat} {items : Array Value} {x : Value} {Q : Value → Shared → Prop} (hit : s.heap.IsListIter it l i) (hl : s.heap.IsList l items) (hx : items[i]? = some x)
 (hQ : ∀ h', h'.IsListIter it l (i + 1) → Heap.SameBut it s.heap h' → Q x { s with heap := h' }) : wpAny (model prog w) A (call (.builtin "next") [.ref it]) Q E s := by
 obtain ⟨o, ho, hc, hd⟩ := id hit
 obtain ⟨ol, hol, _, nl, hdl⟩ := hl
 refine call_function_entry (by decide +kernel) (by decide +kernel) kdk_entry_next (kdk_args_next _) ?_
 unfold Builtin.«next»
 refine wpAny_bind (m := someArgs "next" 1 2 _) (wpAny_of_eq (a := [Value.ref it]) (by first | rfl | kernel_rfl!) ?_)
 dsimp only
 refine wpAny_bind (wpAny_specialOf (name := Str.ofString "__next__") hit.typeIs PySem.slot_listiter_next.lookup ?_)
 refine wpAny_ite_split (fun hab => absurd hab (by decide)) (fun ux => ?_)
 refine wpAny_bind (wpAny_callSpecial?_slot (name := Str.ofString "__next__") hit.typeIs PySem.slot_listiter_next (wpAny_call_entry PySem.slot_listiter_next hit.typeIs PySem.entry_listiter_next ?_ (PySem.args_listiter_next _)))
 show wpAny _ _ (field (.ref it) 0 >>= _) _ _ s
 refine wpAny_bind (wpAny_field ho hd (x := .ref l) rfl ?_)
 show wpAny _ _ (if (Value.ref l == Value.none) = true then _ else _) _ _ s
 erw [if_neg (show ¬ ((Value.ref l == Value.none) = true) from Bool.false_ne_true)]
 show wpAny _ _ (field (.ref it) 1 >>= _) _ _ s
 refine wpAny_bind (wpAny_field ho hd (x := .int i 0) rfl ?_)
 show wpAny _ _ (seqItems? (.ref l) >>= _) _ _ s
 refine wpAny_bind (wpAny_seqItems hol hdl ?_)
 simp only [Int.toNat_natCast, hx]
 refine wpAny_bind (wpAny_setField ho hd (by simp) (wpAny_pure ⟨x, rfl, wpAny_pure ⟨_, rfl, hQ _ ?_ (Heap.SameBut.update ..)⟩⟩))
 exact ⟨_, Heap.get?_update_self _ ho (Obj.isFreed_of_fields (Obj.data_mapFields hd _)), (Obj.cls_mapFields ..).trans hc, by
  erw [Obj.data_mapFields hd]; simp [rawInt]⟩
theorem nY {it l : Addr} {i : Nat} {items : Array Value} {Q : Value → Shared → Prop} (hh : A.handled = none) (hit : s.heap.IsListIter it l i) (hl : s.heap.IsList l items) (hx : items[i]? = none)
 (hE : ∀ h₁ h' e t ot, Heap.SameBut it s.heap h₁ → (∃ o, h₁.get? it = some o) → (∀ Ls, Mad Ls h₁ e t ot "StopIteration" h') → E (.ref e) { s with heap := h' }) : wpAny (model prog w) A (call (.builtin "next") [.ref it]) Q E s := by
 obtain ⟨o, ho, hc, hd⟩ := id hit
 obtain ⟨ol, hol, _, nl, hdl⟩ := hl
 refine call_function_entry (by decide +kernel) (by decide +kernel) kdk_entry_next (kdk_args_next _) ?_
 unfold Builtin.«next»
 refine wpAny_bind (m := someArgs "next" 1 2 _) (wpAny_of_eq (a := [Value.ref it]) (by first | rfl | kernel_rfl!) ?_)
 dsimp only
 refine wpAny_bind (wpAny_specialOf (name := Str.ofString "__next__") hit.typeIs PySem.slot_listiter_next.lookup ?_)
 refine wpAny_ite_split (fun hab => absurd hab (by decide)) (fun ux => ?_)
 refine wpAny_bind (wpAny_callSpecial?_slot (name := Str.ofString "__next__") hit.typeIs PySem.slot_listiter_next (wpAny_call_entry PySem.slot_listiter_next hit.typeIs PySem.entry_listiter_next ?_ (PySem.args_listiter_next _)))
 show wpAny _ _ (field (.ref it) 0 >>= _) _ _ s
 refine wpAny_bind (wpAny_field ho hd (x := .ref l) rfl ?_)
 show wpAny _ _ (if (Value.ref l == Value.none) = true then _ else _) _ _ s
 erw [if_neg (show ¬ ((Value.ref l == Value.none) = true) from Bool.false_ne_true)]
 show wpAny _ _ (field (.ref it) 1 >>= _) _ _ s
 refine wpAny_bind (wpAny_field ho hd (x := .int i 0) rfl ?_)
 show wpAny _ _ (seqItems? (.ref l) >>= _) _ _ s
 refine wpAny_bind (wpAny_seqItems hol hdl ?_)
 simp only [Int.toNat_natCast, hx]
 refine wpAny_bind (wpAny_rule (wpAny_bind (wpAny_setField ho hd (by simp) ?_)))
 have hsb : Heap.SameBut it s.heap (s.heap.update it (Obj.mapFields (·.setIfInBounds 0 .none))) := Heap.SameBut.update ..
 have hit1 := Heap.get?_update_self (Obj.mapFields (·.setIfInBounds 0 .none)) ho (Obj.isFreed_of_fields (Obj.data_mapFields hd _))
 generalize s.heap.update it (Obj.mapFields (·.setIfInBounds 0 .none)) = h₁ at hsb hit1 ⊢
 show wpAny _ _ (newExc (.type "StopIteration") [] >>= _) _ _ _
 refine wpAny_bind ?_
 simp only [newExc, newTuple]
 refine wpAny_bind (wpAny_newObj_type ?_ (by size_fits))
 refine wpAny_bind (m := firstArgMember _ _) (wpAny_of_eq (a := Value.none) (by first | rfl | (simp only [firstArgMember]; rfl)) ?_)
 refine wpAny_newObj_type ?_ (by size_fits)
 simp only [raiseNew]
 refine wpAny_bind (wpAny_handled ?_)
 erw [show A.in1.handled = none from hh]
 refine wpAny_bind (wpAny_pure (wpAny_throw ?_))
 refine hE h₁ _ _ h₁.objs.size _ hsb ⟨_, hit1⟩ (fun Ls => ⟨fun b o ux q => Heap.get?_push_of_some _ (Heap.get?_push_of_some _ q), fun b o q => ⟨o.slots, Heap.get?_push_of_some _ (Heap.get?_push_of_some _ q)⟩, Heap.get?_none_of_le (by simp), ⟨?_, Heap.get?_none_of_le (Nat.le_refl _), Heap.get?_push_of_some _ (Heap.get?_push_size _ rfl)⟩, ⟨_, _, Heap.get?_push_size _ rfl, rfl, rfl, rfl, rfl⟩⟩)
 simp [Heap.push]
end
set_option tactic.hygienic false
theorem and_hi (v r : Nat) (h : r < 64) : (v * 64) &&& r = 0 := by
 apply Nat.eq_of_testBit_eq
 intro j
 erw [Nat.testBit_and, Nat.zero_testBit]
 by_cases hj : j < 6
 · erw [show v * 64 = 2 ^ 6 * v by lia, Nat.testBit_two_pow_mul]
   simp
   lia
 · erw [Nat.testBit_lt_two_pow (Nat.lt_of_lt_of_le h (Nat.pow_le_pow_right (n := 2) (by decide) (by lia : 6 ≤ j)))]
   simp
theorem bor_hi (v r : Nat) (h : r < 64) : Builtin.bitOr ((v * 64 : Nat) : Int) (r : Int) = ((v * 64 + r : Nat) : Int) := by
 erw [bitOr_and, cE, and_hi v r h]
 lia
theorem and63 : ∀ o : Nat, o < 256 → o &&& 63 = o % 64 := by decide +kernel
theorem and64 : ∀ o : Nat, o < 256 → (o &&& 64 != 0) = (o / 64 % 2 == 1) := by decide +kernel
noncomputable def vat (oct : List Nat) (j : Nat) : Nat := (oct.take j).foldl (fun v o => v * 64 + o % 64) 0
theorem iD {oct : List Nat} {j : Nat} (h : j < oct.length) : vat oct (j + 1) = vat oct j * 64 + oct.getD j 0 % 64 := by
 unfold vat
 erw [List.take_succ, List.getElem?_eq_getElem h, Option.toList_some, List.foldl_append, List.getD_eq_getElem?_getD, List.getElem?_eq_getElem h]
 rfl
theorem qG {oct : List Nat} : ∀ {j : Nat}, j ≤ oct.length → vat oct j < 64 ^ j
 | 0, _ => by unfold vat; simp
 | j + 1, h => by
   have := qG (oct := oct) (j := j) (by lia)
   erw [iD (by lia), Nat.pow_succ]
   have : oct.getD j 0 % 64 < 64 := Nat.mod_lt _ (by decide)
   lia
section
variable {prog : Program} {w : World} {A : Around} {wr : List Addr} {s₀ s s' : Shared} {G₀ G G' Gx : Mem} {env : Env} {ρ ρ' ρ₁ : List (Str × D)} {os os' rest : List (Addr × Kd)}
theorem iop_shl {a b : Int} (hn : 0 ≤ b) (hn2 : b ≤ 1000000) (ha : a.natAbs < 2 ^ 64) : jy (model prog w) A .LShift (.i a) (.i b) (.i (a * 2 ^ b.toNat)) := by
 rintro s G Q E _ _ hG ⟨t, rfl⟩ ⟨u, rfl⟩ hQ
 exact ilshift_int_small hn hn2 ha (hQ _ _ _ (Kp.tok hG _) ⟨_, rfl⟩)
theorem iop_or {a b : Int} : jy (model prog w) A .BitOr (.i a) (.i b) (.i (Builtin.bitOr a b)) := by
 rintro s G Q E _ _ hG ⟨t, rfl⟩ ⟨u, rfl⟩ hQ
 exact ior_int (hQ _ _ _ (Kp.tok hG _) ⟨_, rfl⟩)
theorem iF {op : Operator} {da db d d' : D} (h : jy (model prog w) A op da db d) (q : d = d') : jy (model prog w) A op da db d' := q ▸ h
theorem kT {x : Str} {p1 p2 pos : Pos} {it l : Addr} {i : Nat} {ds : List D} {d : D} (hx : (x, .g Gx (.ref it)) ∈ ρ) (hn : (("next":Str), .v (.builtin "next")) ∈ ρ) (hl : Rp Gx (.l ds) (.ref l)) (hi : ds[i]? = some d)
 (hd1 : (x == ("__debug__" : Str)) = false) (hk1 : (env.kindOf x).isSome = true) (hk2 : (env.kindOf ("next":Str)).isSome = true) :
 EvF (model prog w) A wr s₀ G₀ env ρ ((it, itK l i) :: rest) (.Call (.Name ("next":Str) p1) [.Name x p2] [] pos) d ((it, itK l (i + 1)) :: rest) := by
 intro s G Q E f hQ
 refine Call_Name rfl (az f hn (fun v s₂ G₂ f₂ le₂ r₂ => ?_) (by decide) hk2)
 obtain rfl : v = .builtin "next" := r₂
 refine callWith_method1 (eZ (ds := [.g Gx (.ref it)]) f₂ (ab (aa hx hd1 hk1) ae) fun vs s₃ G₃ f₃ le₃ r₃ => ?_)
 obtain ⟨v₁, _, rfl, ⟨rfl, leX⟩, rfl⟩ := r₃
 obtain ⟨_, _, o, eo, hc, hd⟩ := f₃.S _ (.head _)
 obtain ⟨l', vs, k, el, gl, rr⟩ := hl
 cases el
 obtain ⟨v', hv, rv⟩ := rr.get hi
 have hlist : s₃.heap.IsList l vs := ⟨_, f₃.E.sub _ _ (leX _ _ gl), rfl, _, rfl⟩
 refine nW (x := v') ⟨o, eo, hc, hd⟩ hlist (by simpa using hv) fun h' hit' hs' => ?_
 obtain ⟨o', eo', hc', hd'⟩ := hit'
 exact hQ v' _ G₃ (Fm.mut0 (t := s₃.toks) (k' := itK l (i + 1)) f₃ hs' eo' ⟨hc', hd'⟩) (le₂.tr le₃) (rv.mono leX)
end
noncomputable abbrev lc (G : Mem) (it : Addr) : List (Str × D) := [(("iterator":Str), .g G (.ref it)), ("next", .v (.builtin "next"))]
set_option maxRecDepth 100000 in
set_option maxHeartbeats 4000000 in
theorem nV {w : World} {A : Around} {g : Heap} {p : Program} {loose : List Str} {mean : ExcName → Option Value} {mg mb : Str → Option Value} (X : (hd.heap_39 w.params).In g) (T : Top p loose mean mg mb g) (hA : A.handled = none) (hroom : A.depth < recursionLimit)
 {s : Shared} {G : Mem} {Q E : Value → Shared → Prop} {vs : List Value} {it l : Addr} {i : Nat} {xs : List Int} {oct : List Nat} {post : List Int} (hin : In G s.heap) (hle : Le g.get? G) (hvs : RpL G [.v (.ref it)] vs) (hl : Rp G (.l (xs.map .i)) (.ref l)) (hx : xs.drop i = oct.map (fun (n : Nat) => (n : Int)) ++ post) (h0 : 0 < oct.length) (h8 : oct.length ≤ 8) (hb : ∀ o ∈ oct, o < 256)
 (hcont : ∀ j, j + 1 < oct.length → (oct.getD j 0) / 64 % 2 = 1) (hlast : (oct.getD (oct.length - 1) 0) / 64 % 2 = 0) (hh : Held G s.heap [(it, itK l i)])
 (hQ : ∀ s' G' v, Eff [(it, itK l i)] [(it, itK l (i + oct.length))] s G s' G' → Rp G' (.i (vat oct oct.length)) v → Q v s') : wpAny (model Challenge.rw_wb0032_01.row.prog w) A (call (.ref 47) vs) Q E s := by
 refine k_v (Z := fun vs => wpAny _ _ (call _ vs _) _ _ _) hvs ?_
 have hget : ∀ j, j < oct.length → (xs.map D.i)[i + j]? = some (.i (oct.getD j 0 : Nat)) := fun j hj => by
  erw [List.getElem?_map, ← List.getElem?_drop, hx, List.getElem?_append_left (by simpa using hj), List.getElem?_map, List.getD_eq_getElem?_getD, List.getElem?_eq_getElem hj]
  rfl
 have h256 : ∀ j, oct.getD j 0 < 256 := fun j => by
  erw [List.getD_eq_getElem?_getD]
  by_cases hj : j < oct.length
  · erw [List.getElem?_eq_getElem hj]; exact hb _ (List.getElem_mem hj)
  · erw [List.getElem?_eq_none (by lia)]; decide
 revert X
 k_fill
 intro X
 k_dflt (refine' bo (os := [(it, itK l i)]) (ρ := (lc G it)) X T hroom hin hle ?ho ?hcd ?hbody ?hbind ?hclo ?hkind ?hnd ?gl ?bu ?hos ?hod ?hρ ?hrun ?hco ?hgen ?hk; ((case ho | hcd => k_is); (case hnd => decide +kernel); (case hbody | hclo | gl | bu | hco | hgen | hk => exact rfl)); (case hbind => exact BindsTo.of_eq rfl); (case hkind => exact rfl); (case hos => exact hh.1); (case hod => exact hh.2))
 case hρ =>
  intro h L hn hc hg hb
  repeat' first | exact List.forall_mem_nil _ | with_reducible refine aM ?_ ?_
  · exact al hn rfl rfl rfl ⟨rfl, Le.rf _⟩
  · exact aB hg hb rfl rfl rfl (mg_none_of X T.g (by k_is)) ((T.builtins _ (by decide)).trans (by decide +kernel))
 case hrun =>
  intro s₁ L f₁
  refine cp fun E' => ?_
  refine dk f₁ (d := .i (oct.getD 0 0 : Nat)) (os₁ := [(it, itK l (i + 1))]) (kT (rest := []) m0 m1 hl (hget 0 h0) (by decide) rfl rfl) ar (ρ' := ((("b":Str), .i (oct.getD 0 0 : Nat)) :: lc G it)) af fun s₂ G₂ f₂ le₂ => ?_
  refine ao (d := .i (vat oct 1 : Nat)) f₂ (ah (ag (aa m0) ad iA) ?hc1) ar (ρ' := ((("val":Str), .i (vat oct 1 : Nat)) :: ("b", .i (oct.getD 0 0 : Nat)) :: lc G it)) af fun s₃ G₃ f₃ => ?_
  case hc1 =>
   erw [show (63 : Int) = ((63 : Nat) : Int) from rfl, cE, and63 _ (h256 0), iD h0]
   unfold vat
   simp
  refine c8 (fun n ρi osi => ∃ j : Nat, n + j + 1 = oct.length ∧ ρi = ((("val":Str), .i (vat oct (j + 1) : Nat)) :: ("b", .i (oct.getD j 0 : Nat)) :: lc G it) ∧ osi = [(it, itK l (i + (j + 1)))])
   (fun ρi osi => osi = [(it, itK l (i + oct.length))] ∧ ∃ R, ρi = (("val":Str), .i (vat oct oct.length : Nat)) :: R) (oct.length - 1) f₃ ⟨0, by lia, rfl, rfl⟩ ?turn ?hend
  case hend =>
   rintro ρ' os' s' G' E' ⟨rfl, R, rfl⟩ f
   refine wpAny_execs_nil ?_
   refine bJ f (aa m0) fun v s₆ G₆ f₆ r => ?_
   exact hQ s₆ G₆ v (f₆.eff (os := [(it, itK l i)]) (List.Sublist.refl _)) r
  case turn =>
   rintro n ρi osi ⟨j, hj, rfl, rfl⟩
   refine ⟨(oct.getD j 0) / 64 % 2 == 1, aX (gF (ag (aa m1) ad iA) jE) ?hc2, fun hc => ?_, fun hc s' Gi E' f => ?_⟩
   case hc2 =>
    erw [show (64 : Int) = ((64 : Nat) : Int) from rfl, cE, ← and64 _ (h256 j)]
    erw [Bool.eq_iff_iff]
    simp
   · have hj2 : ¬ j + 1 < oct.length := fun h => by
      have := hcont j h
      rw [this] at hc; cases hc
     obtain rfl : n = 0 := by lia
     have : j + 1 = oct.length := by lia
     erw [this]
     exact ⟨rfl, _, rfl⟩
   · have hj2 : j + 1 < oct.length := by
      rcases Nat.lt_or_ge (j + 1) oct.length with h | h
      · exact h
      · have : oct.length - 1 = j := by lia
        rw [this] at hlast
        rw [hlast] at hc; cases hc
     have hvl := qG (oct := oct) (j := j + 1) (by lia)
     have hv2 : vat oct (j + 1) < 64 ^ 8 := Nat.lt_of_lt_of_le hvl (Nat.pow_le_pow_right (by decide) (by lia))
     refine jY (hl := .inl rfl) (d := .i ((vat oct (j + 1) * 64 : Nat) : Int)) f m0 ad (iF (iop_shl (by decide) (by decide) (by erw [Int.natAbs_natCast]; lia)) ?hc3) ar (ρ' := ((("val":Str), .i ((vat oct (j + 1) * 64 : Nat) : Int)) :: ("b", .i (oct.getD j 0 : Nat)) :: lc G it)) aU fun s₄ G₄ f₄ => ?_
     case hc3 => erw [show Int.toNat 6 = 6 from rfl]; congr 1
     refine dk f₄ (d := .i (oct.getD (j + 1) 0 : Nat)) (os₁ := [(it, itK l (i + (j + 1) + 1))]) (kT (rest := []) m2 m3 hl (hget (j + 1) hj2) (by decide) rfl rfl) ar (ρ' := ((("b":Str), .i (oct.getD (j + 1) 0 : Nat)) :: ("val", .i ((vat oct (j + 1) * 64 : Nat) : Int)) :: lc G it)) aU fun s₅ G₅ f₅ le₅ => ?_
     refine jY (hl := .inl rfl) (d := .i (vat oct (j + 1 + 1) : Nat)) f₅ m1 (ag (aa m0) ad iA) (iF iop_or ?hc4) ar (ρ' := ((("val":Str), .i (vat oct (j + 1 + 1) : Nat)) :: ("b", .i (oct.getD (j + 1) 0 : Nat)) :: lc G it)) aU fun s₆ G₆ f₆ => ?_
     case hc4 =>
      erw [show (63 : Int) = ((63 : Nat) : Int) from rfl, cE, and63 _ (h256 (j + 1)), bor_hi _ _ (Nat.mod_lt _ (by decide)), ← iD hj2]
     refine wpAny_execs_nil ⟨n - 1, _, _, G₆, by lia, ⟨j + 1, by lia, rfl, rfl⟩, f₆⟩
set_option maxRecDepth 100000 in
set_option maxHeartbeats 4000000 in
theorem iI {w : World} {A : Around} {g : Heap} {p : Program} {loose : List Str} {mean : ExcName → Option Value} {mg mb : Str → Option Value} (X : (hd.heap_39 w.params).In g) (T : Top p loose mean mg mb g) (hA : A.handled = none) (hroom : A.depth < recursionLimit)
 {s : Shared} {G : Mem} {Q E : Value → Shared → Prop} {vs : List Value} {it l : Addr} {i : Nat} {xs : List Int} {outer : List Env} (hfr : A.frames = some outer) (hst : ∀ en ∈ outer, en.scope.kind ≠ .module ∧ ∃ L o, en.frame = some L ∧ L ≠ it ∧ s.heap.get? L = some o ∧ ∀ vs, o.data ≠ .fields vs)
 (hin : In G s.heap) (hle : Le g.get? G) (hvs : RpL G [.v (.ref it)] vs) (hl : Rp G (.l (xs.map .i)) (.ref l)) (hx : xs.length ≤ i) (hh : Held G s.heap [(it, itK l i)])
 (hE : ∀ sr G' Lv h' e t ot, Eff [(it, itK l i)] [(it, iL)] s G sr G' → s.heap.get? Lv = none → G' Lv = none → Thr (Lv :: outer.filterMap (·.frame)) sr.heap e t ot "StopIteration" .none h' → E (.ref e) { sr with heap := h' }) : wpAny (model Challenge.rw_wb0032_01.row.prog w) A (call (.ref 47) vs) Q E s := by
 refine k_v (Z := fun vs => wpAny _ _ (call _ vs _) _ _ _) hvs ?_
 obtain ⟨l', lvs, k, el, gl, rr⟩ := hl
 cases el
 have hnone : lvs[i]? = none := by
  have := rr.length
  rw [List.length_map] at this
  refine Array.getElem?_eq_none ?_
  have h2 : lvs.size = lvs.toList.length := by simp
  lia
 revert X
 k_fill
 intro X
 k_dflt (refine' bo (os := [(it, itK l i)]) (ρ := (lc G it)) X T hroom hin hle ?ho ?hcd ?hbody ?hbind ?hclo ?hkind ?hnd ?gl ?bu ?hos ?hod ?hρ ?hrun ?hco ?hgen ?hk; ((case ho | hcd => k_is); (case hnd => decide +kernel); (case hbody | hclo | gl | bu | hco | hgen | hk => exact rfl)); (case hbind => exact BindsTo.of_eq rfl); (case hkind => exact rfl); (case hos => exact hh.1); (case hod => exact hh.2))
 case hρ =>
  intro h L hn hc hg hb
  repeat' first | exact List.forall_mem_nil _ | with_reducible refine aM ?_ ?_
  · exact al hn rfl rfl rfl ⟨rfl, Le.rf _⟩
  · exact aB hg hb rfl rfl rfl (mg_none_of X T.g (by k_is)) ((T.builtins _ (by decide)).trans (by decide +kernel))
 case hrun =>
  intro s₁ L f₁
  refine aP (wr := [(it, itK l i)].map (·.1)) (s₀ := s) (G₀ := G) ar ?_
  refine Call_Name rfl (az f₁ (d := .v (.builtin "next")) m1 fun v s₂ G₂ f₂ le₂ r₂ => ?_)
  obtain rfl : v = .builtin "next" := r₂
  refine callWith_method1 (eZ (ds := [.g G (.ref it)]) f₂ (ab (aa m0) ae) fun vs s₃ G₃ f₃ le₃ r₃ => ?_)
  obtain ⟨v₁, _, rfl, ⟨rfl, leX⟩, rfl⟩ := r₃
  obtain ⟨_, nit, o, eo, hc, hd⟩ := f₃.S _ (.head _)
  refine nY (items := lvs) (by exact hA) ⟨o, eo, hc, hd⟩ ⟨_, f₃.E.sub _ _ (leX _ _ gl), rfl, _, rfl⟩ hnone fun h₁ h' e t ot hs hio hm => ?_
  obtain ⟨o', eo'⟩ := hio
  have f₄ := Fm.mut0 (t := s₃.toks) (k' := iL) f₃ hs eo' trivial
  have fra : s.heap.get? L = none := by
   rcases f₃.F L (.head _) with q | q
   · obtain ⟨p, hp, ep⟩ := List.mem_map.mp q
     exact absurd (by erw [ep]; exact .tail _ (.tail _ (.head _))) (f₃.S p hp).2.1
   · exact q
  refine ej (outer := outer) (L := L) (Ls := L :: outer.filterMap (·.frame)) (h₀ := h₁) ?hfr2 ?stk rfl (hm _) fun h'' th => ?hfin
  case hfr2 =>
   show A.frames.map _ = _
   erw [hfr]; rfl
  case stk =>
   intro en hen
   rcases List.mem_cons.mp hen with rfl | hen
   · obtain ⟨m, ol, es, ep, el, dl, _⟩ := f₄.O.ns
     exact ⟨by erw [f₄.E.fn]; decide, L, ol, rfl, .head _, el, fun vs q => by rw [dl] at q; cases q⟩
   · obtain ⟨hk, L', o₁, hf, hne, e₁, hnf⟩ := hst en hen
     have e₂ := f₃.K.hp L' o₁ (fun q => hne (List.mem_singleton.mp q)) e₁
     refine ⟨hk, L', _, hf, .tail _ (List.mem_filterMap.mpr ⟨en, hen, hf⟩), ?_, hnf⟩
     exact (hs.2 L' hne).trans e₂
  case hfin => exact hE { s₃ with heap := h₁ } G₃ L h'' e t ot (f₄.eff (os := [(it, itK l i)]) (List.Sublist.refl _)) fra f₄.O.gn th
set_option tactic.hygienic false
section
variable {prog : Program} {w : World} {A : Around} {wr : List Addr} {s₀ s s' : Shared} {G₀ G G' : Mem} {env : Env} {ρ ρ' ρ₁ : List (Str × D)} {os os' : List (Addr × Kd)} {rest : List Stmt} {Q : Flow → Shared → Prop} {E : Value → Shared → Prop}
theorem l4 {o e : Expr} {apos pos pos' : Pos} {a : Addr} {ds : List D} {d : D} (f : Fm wr s₀ G₀ env ρ ((a, .l ds) :: os) s G) (hx : Ev (model prog w) A env ρ o (.v (.ref a))) (hsz : ds.length ≤ 1000000)
 (hv : ∀ s₁ G₁, Fm wr s₀ G₀ env ρ ((a, .l ds) :: os) s₁ G₁ → Le G G₁ → wpAny (model prog w) A (spliced (backTo pos (starEach [e] env))) (fun us s₂ => ∃ v G₂ os₂, us = [v] ∧ Fm wr s₀ G₀ env ρ ((a, .l ds) :: os₂) s₂ G₂ ∧ Rp G₂ d v ∧ ∀ s', Fm wr s₀ G₀ env ρ ((a, .l (ds ++ [d])) :: os₂) s' G₂ → wpAny (model prog w) A (execs rest env) Q E s') E s₁)
 (hi : interactive env = false := by rfl) (hs : swapsWith (.Call (.Attribute o ("append":Str) apos) [e] [] pos) none pos'.line env = pure false := by rfl)
 {pl : Sem Bool} (hm : eval (.Call (.Attribute o ("append":Str) apos) [e] [] pos) env = (do
  let ov ← eval o env
  standAt apos.atName
  let (f, first) ← holding [ov] (getMethod ov ("append":Str) pl)
  callWith pos f first (backTo pos (starEach [e] env)) []) := by rfl)
 (he : ∀ env, starEach (e :: []) env = (false, eval e env) :: starEach [] env := by intro _; rfl) :
 wpAny (model prog w) A (execs (.Expr (.Call (.Attribute o ("append":Str) apos) [e] [] pos) pos' :: rest) env) Q E s := by
 refine de (MethodCall_ (hx s G _ _ f.E fun ov s₁ G₁ k₁ r₁ => ?_) hm) hi hs
 have r₁ : ov = .ref a := r₁
 subst r₁
 have f₁ := f.go k₁
 obtain ⟨g, na, ob, e₁, vs, n, rfl, r⟩ := f₁.S _ (.head _)
 refine getMethod_list_append e₁ rfl rfl (callWith_method1 (wpAny_mono (hv s₁ G₁ f₁ k₁.le) (fun us s₂ h₂ => ?_) fun ux ux e => e) (he env))
 obtain ⟨v, G₂, os₂, rfl, f₂, rv, hk⟩ := h₂
 obtain ⟨g', na', ob', e₂, vs', n', rfl, r'⟩ := f₂.S _ (.head _)
 have hlen : vs'.size = ds.length := by have := r'.length; simpa using this
 refine append_at e₂ (fun h' hsb ho => ?_) (by erw [sizeLine_eq]; lia)
 exact hk _ (f₂.mut0 (k' := .l (ds ++ [d])) (t := s₂.toks) hsb ho ⟨_, _, rfl, by erw [Array.toList_push]; exact RpL.append r' (RpL.one rv)⟩)
end
set_option tactic.hygienic false
noncomputable abbrev Fm.envOf {wr : List Addr} {s₀ s : Shared} {G₀ G : Mem} {env : Env} {ρ : List (Str × D)} {os : List (Addr × Kd)} (_ : Fm wr s₀ G₀ env ρ os s G) : Env := env
theorem Thr.go {Ls : List Addr} {h₀ h h' : Heap} {e t : Addr} {ot : Obj} {X : String} {fl : Value} (x : Thr Ls h₀ e t ot X fl h) (k : ∀ b o, h.get? b = some o → h'.get? b = some o) : Thr Ls h₀ e t ot X fl h' := by
 refine aG fun Z kZ => ?_
 obtain ⟨oe, vs, T, oT, ts, he, hc, hd, h0, h1, nT, hTe, hTt, hT, hdT, h3⟩ := x.ex
 refine kZ ?_
 clear kZ Z
 exact ⟨fun b o hb q => k _ _ (x.keep b o hb q), fun b o q => let ⟨sl, z⟩ := x.slot b o q; ⟨sl, k _ _ z⟩, x.fe, ⟨x.tt.1, x.tt.2.1, k _ _ x.tt.2.2⟩, ⟨oe, vs, T, oT, ts, k _ _ he, hc, hd, h0, h1, nT, hTe, hTt, k _ _ hT, hdT, h3⟩⟩
theorem qC {prog : Program} {w : World} {A : Around} {env : Env} {ρ : List (Str × D)} {s : Shared} {G : Mem} {e : Expr} {d : D} {Q : Value → Shared → Prop} {E : Value → Shared → Prop} (h : Ev (model prog w) A env ρ e d) (hE : En s.heap G env ρ) (hQ : ∀ v s' G', Kp s G s' G' → Rp G' d v → Q v s') : wpAny (model prog w) A (eval e env) Q E s := h s G Q E hE hQ
noncomputable def kj (e : List Nat) : Prop := 0 < e.length ∧ e.length ≤ 8 ∧ (∀ o ∈ e, o < 256) ∧ (∀ j, j + 1 < e.length → e.getD j 0 / 64 % 2 = 1) ∧ e.getD (e.length - 1) 0 / 64 % 2 = 0
noncomputable def gt (encs : List (List Nat)) (i : Nat) : Nat := ((encs.take i).flatten).length
theorem qg {encs : List (List Nat)} {i : Nat} (h : i < encs.length) : gt encs (i + 1) = gt encs i + encs[i].length := by
 unfold gt
 erw [List.take_succ, List.getElem?_eq_getElem h, Option.toList_some, List.flatten_append, List.length_append]
 simp
theorem ro {encs : List (List Nat)} {i : Nat} (h : i < encs.length) : ((encs.flatten).map (fun (n : Nat) => (n : Int))).drop (gt encs i) = (encs[i]).map (fun (n : Nat) => (n : Int)) ++ ((encs.drop (i + 1)).flatten).map (fun (n : Nat) => (n : Int)) := by
 have e : encs = encs.take i ++ encs[i] :: encs.drop (i + 1) := by
  erw [List.getElem_cons_drop]; exact (List.take_append_drop i encs).symm
 have e2 : (encs.flatten) = (encs.take i).flatten ++ (encs[i] ++ (encs.drop (i + 1)).flatten) := by
  conv => lhs; erw [e]
  erw [List.flatten_append, List.flatten_cons]
 erw [e2, List.map_append, List.map_append]
 unfold gt
 erw [show ((encs.take i).flatten).length = (((encs.take i).flatten).map (fun (n : Nat) => (n : Int))).length by erw [List.length_map], List.drop_left]
theorem off_all {encs : List (List Nat)} : (encs.flatten.map (fun (n : Nat) => (n : Int))).length ≤ gt encs encs.length := by
 unfold gt
 erw [List.take_length, List.length_map]
 exact Nat.le_refl _
noncomputable abbrev rdL (g : Heap) (G : Mem) (it nb : Addr) : List (Str × D) := [(("tape":Str), .g G (.ref it)), ("numbers", .v (.ref nb)), ("_parse_varint", .g g.get? (.ref 47)), ("range", .v (.type "range")), ("StopIteration", .v (.type "StopIteration"))]
set_option maxRecDepth 100000 in
set_option maxHeartbeats 4000000 in
theorem ct_read {w : World} {A : Around} {g : Heap} {p : Program} {loose : List Str} {mean : ExcName → Option Value} {mg mb : Str → Option Value} (X : (hd.heap_39 w.params).In g) (T : Top p loose mean mg mb g) (hA : A.handled = none) (hroom : A.depth + 1 < recursionLimit)
 {s : Shared} {G : Mem} {Q E : Value → Shared → Prop} {vs : List Value} {envL : Env} {LL : Addr} {oLL : Obj} (hfr : A.frames = some [envL]) (hkL : envL.scope.kind ≠ .module) (hfL : envL.frame = some LL) (hnf : ∀ vs, oLL.data ≠ .fields vs)
 {it l nb : Addr} {encs : List (List Nat)} {ns : List Int} (hlen : encs.length = 7) (hns : ns = encs.map fun e => (vat e e.length : Int)) (henc : ∀ e ∈ encs, kj e) (hl : Rp G (.l (((encs.flatten).map (fun (n : Nat) => (n : Int))).map .i)) (.ref l))
 (hin : In G s.heap) (hle : Le g.get? G) (hvs : RpL G [.v (.ref it), .v (.ref nb)] vs) (hh : Held G s.heap [(nb, .l []), (it, itK l 0), (LL, bP oLL)])
 (hQ : ∀ s' G', Eff [(nb, .l []), (it, itK l 0), (LL, bP oLL)] [(nb, .l (ns.map .i)), (it, iL), (LL, bP oLL)] s G s' G' → Q (.ref nb) s') : wpAny (model Challenge.rw_wb0032_01.row.prog w) A (call (.ref 75) vs) Q E s := by
 refine k_vv (Z := fun vs => wpAny _ _ (call _ vs _) _ _ _) hvs ?_
 have hroom0 : A.depth < recursionLimit := by lia
 have hnl : ns.length = 7 := by erw [hns, List.length_map]; exact hlen
 revert X
 k_fill
 intro X
 have h47 := X 47 _ (by k_is)
 k_dflt (refine' bo (os := [(nb, .l []), (it, itK l 0), (LL, bP oLL)]) (ρ := (rdL g G it nb)) X T hroom0 hin hle ?ho ?hcd ?hbody ?hbind ?hclo ?hkind ?hnd ?gl ?bu ?hos ?hod ?hρ ?hrun ?hco ?hgen ?hk; ((case ho | hcd => k_is); (case hnd => decide +kernel); (case hbody | hclo | gl | bu | hco | hgen | hk => exact rfl)); (case hbind => exact BindsTo.of_eq rfl); (case hkind => exact rfl); (case hos => exact hh.1); (case hod => exact hh.2))
 case hρ =>
  intro h L hn hc hg hb
  repeat' first | exact List.forall_mem_nil _ | with_reducible refine aM ?_ ?_
  · exact al hn rfl rfl rfl ⟨rfl, Le.rf _⟩
  · exact al hn rfl rfl rfl rfl
  · exact bi hg rfl rfl (mg_of X T.g (by k_is)) hle
  · exact aB hg hb rfl rfl rfl (mg_none_of X T.g (by k_is)) ((T.builtins _ (by decide)).trans (by decide +kernel))
  · exact aB hg hb rfl rfl rfl (mg_none_of X T.g (by k_is)) ((T.builtins _ (by decide)).trans (by decide +kernel))
 case hrun =>
  intro s₁ L f₁
  refine cp fun E' => ?_
  refine wpAny_execs_cons (wpAny_Try_except ?_)
  refine mY (xs := rng 0 20) (fun i ρi osi => i ≤ 7 ∧ ρi = (rdL g G it nb) ∧ osi = [(nb, Kd.l ((ns.take i).map .i)), (it, itK l (gt encs i)), (LL, bP oLL)]) (fun ux ux => False) (fun ux ux ux => False)
   (fun ρ' os' => ρ' = (rdL g G it nb) ∧ os' = [(nb, Kd.l (ns.map .i)), (it, iL), (LL, bP oLL)])
   (fun e sb sr G' s₃ => ∃ Lv t ea ot h', e = .ref ea ∧ s₃ = { sr with heap := h' } ∧ sb.heap.get? Lv = none ∧ Lv ∉ ([nb, it, LL] : List Addr) ∧ G' Lv = none ∧ Thr [Lv, L, LL] sr.heap ea t ot "StopIteration" .none h')
   f₁ (aH m3 (ab ad ae) (ca (by exact hA) (by decide) (by decide))) ⟨by lia, rfl, rfl⟩ ?turn ?hend (fun ux ux ux ux h => h.elim) (fun ux ux ux ux ux ux h => h.elim) ?hexc
  case hend =>
   rintro ρ' os' s' G' E' ⟨h, _⟩
   exact absurd h (by decide)
  case turn =>
   rintro i e ρi osi hdi ⟨hi7, rfl, rfl⟩
   refine ⟨_, bS ar af, fun wr s₀ G₀ s' G₁ E' hE f => ?_⟩
   refine aS fun Qt kQt => ?_
   have hlg : Le g.get? G₁ := f.leOf (x := "_parse_varint") m3
   have hlG : Le G G₁ := f.leOf (x := "tape") m1
   refine l4 (d := .i (ns.getD i 0)) (f.say (ρ' := (rdL g G it nb)) eS) (aa m1) (by erw [List.length_map, List.length_take]; lia) fun s₂ G₂ f₂ le₂ => ?_
   refine spliced_more ?_
   refine aS fun QQ hqq => ?_
   refine cj (kn := []) (dF := .g g.get? (.ref 47)) (ds := [.g G (.ref it)]) (kds := []) (o := _) (fd := _) f₂ m2 (fun ux ux h => h.1) (fun s' G' f' => f'.E.sub _ _ (f'.leOf (x := "_parse_varint") (u := .ref 47) (Gs := g.get?) m2 _ _ h47)) rfl (ab (aa m0) ae) bl fun s₃ G₃ vs ks f₃ le₃ rv rk => ?_
   have lev := rgl rv
   have fp := f₃.perm (pl1 _ _ _)
   by_cases h7 : i < 7
   · have hie : i < encs.length := by lia
     refine aG fun Z kZ => ?_
     obtain ⟨o1, o2, o3, o4, o5⟩ := henc _ (List.getElem_mem hie)
     refine kZ ?_
     clear kZ Z
     refine nV (A := A.deeper _) X T hA (by exact hroom) fp.E.sub (fp.leOf (x := "_parse_varint") m2) (rgv rv) (hl.mono lev) (ro hie) o1 o2 o3 o4 o5 (Held.left (os := [(it, itK l (gt encs i))]) fp.held) fun s₄ G₄ v ef rv => ?_
     have f₄ := fp.called (os := [(it, itK l (gt encs i))]) ef fun b hb ux => hb
     have f₄ := f₄.perm (os' := [(nb, Kd.l ((ns.take i).map .i)), (it, itK l (gt encs i + encs[i].length)), (LL, bP oLL)]) (pl1 _ _ _)
     refine hqq _ _ ?_
     refine spliced_none ⟨_, G₄, _, rfl, f₄, ?_, fun s₅ f₅ => ?_⟩
     · have e : ns.getD i 0 = (vat encs[i] encs[i].length : Nat) := by
        erw [hns, List.getD_eq_getElem?_getD, List.getElem?_map, List.getElem?_eq_getElem hie]
        rfl
       erw [e]
       exact rv
     · refine wpAny_execs_nil (kQt _ _ ⟨_, _, G₄, ⟨by lia, rfl, rfl⟩, ?_⟩)
       erw [qg hie, List.take_succ, List.getElem?_eq_getElem (by lia), Option.toList_some, List.map_append]
       rw [List.getD_eq_getElem?_getD, List.getElem?_eq_getElem (by lia)] at f₅
       exact f₅
   · obtain rfl : i = 7 := by lia
     refine aG fun Z kZ => ?_
     obtain ⟨m, ol, es, ep, el, dl, _⟩ := fp.O.ns
     refine kZ ?_
     clear kZ Z
     refine aG fun Z kZ => ?_
     obtain ⟨_, _, oit, eit, _, dit⟩ := fp.S _ (.head _)
     refine kZ ?_
     clear kZ Z
     refine aG fun Z kZ => ?_
     obtain ⟨_, nLL, o₂, e₂, sl, hsl⟩ := fp.S (LL, bP oLL) (.tail _ (.tail _ (.head _)))
     refine kZ ?_
     clear kZ Z
     have nLi : LL ≠ it := fun q => by
      have N := fp.N
      simp only [List.map_cons, List.map_nil, List.nodup_cons, List.mem_cons, List.not_mem_nil, or_false, not_or] at N
      exact N.1.2 q.symm
     refine iI (A := A.deeper _) (outer := [f₁.envOf, envL]) (xs := (encs.flatten).map (fun (n : Nat) => (n : Int))) X T hA (by exact hroom) ?hfr3 ?hst3 fp.E.sub (fp.leOf (x := "_parse_varint") m2) (rgv rv) (hl.mono lev) ?hx3 (Held.left (os := [(it, itK l (gt encs 7))]) fp.held) fun sr G₄ Lv h' ea t ot ef hLv gLv th => ?hE3
     case hfr3 =>
      show A.frames.map _ = _
      erw [hfr]; rfl
     case hst3 =>
      intro en hen
      rcases List.mem_cons.mp hen with rfl | hen
      · have nLi2 : L ≠ it := fun q => by
         rw [← q] at eit
         have el : s₃.heap.get? L = some ol := el
         rw [el] at eit
         cases eit
         rw [dl] at dit
         cases dit
        exact ⟨by erw [fp.E.fn]; decide, L, ol, rfl, nLi2, el, fun vs q => by rw [dl] at q; cases q⟩
      · erw [List.mem_singleton.mp hen]
        exact ⟨hkL, LL, o₂, hfL, nLi, e₂, fun vs q => hnf vs (by rw [hsl] at q; exact q)⟩
     case hx3 => rw [← hlen]; exact off_all
     case hE3 =>
      have f₄ := fp.called (os := [(it, itK l (gt encs 7))]) ef fun b hb ux => hb
      have f₄ := f₄.perm (os' := [(nb, Kd.l ((ns.take 7).map .i)), (it, iL), (LL, bP oLL)]) (pl1 _ _ _)
      rw [List.take_of_length_le (by lia)] at f₄
      obtain ⟨nf, no, n0⟩ := fp.fresh_far hLv
      refine hE _ sr G₄ _ _ _ ⟨rfl, rfl⟩ f₄ ⟨Lv, t, ea, ot, h', rfl, rfl, n0, fun q => no ?_, gLv, ?_⟩
      · simp only [List.map_cons, List.map_nil, List.mem_cons, List.not_mem_nil, or_false] at q ⊢
        rcases q with q | q | q
        · exact .inr (.inl q)
        · exact .inl q
        · exact .inr (.inr q)
      · have e1 : f₁.envOf.frame = some L := rfl
        rw [show [f₁.envOf, envL].filterMap (·.frame) = [L, LL] by simp [List.filterMap_cons, e1, hfL]] at th
        exact th
  case hexc =>
   rintro e sb Gb ρb osb sr G' ρ' os' s₃ fb ⟨rfl, rfl⟩ f ⟨Lv, t, ea, ot, h', rfl, rfl, hLv, nLv, gLv, th⟩
   have stk : Stk [Lv, L, LL] sr.heap [f₁.envOf, envL] := by
    intro en hen
    rcases List.mem_cons.mp hen with rfl | hen
    · obtain ⟨m, ol, es, ep, el, dl, _⟩ := f.O.ns
      exact ⟨by erw [f.E.fn]; decide, L, ol, rfl, .tail _ (.head _), el, fun vs q => by rw [dl] at q; cases q⟩
    · erw [List.mem_singleton.mp hen]
      refine aG fun Z kZ => ?_
      obtain ⟨_, nLL, o₂, e₂, sl, hsl⟩ := f.S (LL, bP oLL) (.tail _ (.tail _ (.head _)))
      refine kZ ?_
      clear kZ Z
      exact ⟨hkL, LL, o₂, hfL, .tail _ (.tail _ (.head _)), e₂, fun vs q => hnf vs (by rw [hsl] at q; exact q)⟩
   obtain ⟨nf, no, n0⟩ := fb.fresh_far hLv
   have hLs : ∀ L' ∈ ([Lv, L, LL] : List Addr), L' = f₁.envOf.locals ∨ (∃ o, (L', bP o) ∈ [(nb, Kd.l (ns.map .i)), (it, iL), (LL, bP oLL)]) ∨ (L' ∉ far f₁.envOf ∧ L' ∉ [(nb, Kd.l (ns.map .i)), (it, iL), (LL, bP oLL)].map (·.1) ∧ s.heap.get? L' = none ∧ G' L' = none) := by
    intro L' hL'
    simp only [List.mem_cons, List.not_mem_nil, or_false] at hL'
    rcases hL' with rfl | rfl | rfl
    · exact .inr (.inr ⟨nf, nLv, n0, gLv⟩)
    · exact .inl rfl
    · exact .inr (.inl ⟨oLL, .tail _ (.tail _ (.head _))⟩)
   refine lw (s := { sr with heap := h' }) (outer := [envL]) (L := L) ?hfr4 stk rfl th fun h2 th2 => ?_
   case hfr4 =>
    show A.frames.map _ = _
    erw [hfr]; rfl
   refine qb (s := { sr with heap := h2 }) (L := L) rfl th2 fun h3 th3 => ?_
   refine oI (s := { sr with heap := h3 }) (L := L) rfl th3 ?_
   refine ch (s := { sr with heap := h3 }) th3 fun h4 th4 => ?_
   have f4 := f.thr (tk := sr.toks) th4.keep th4.slot hLs
   refine wpAny_handleBy_builtin (X := "StopIteration") (T := "StopIteration") (b := true) (by erw [isSubtype_type]; kernel_rfl) (by erw [isSubtype_type]; kernel_rfl) (by erw [isSubtype_type]; kernel_rfl) ?_
   refine qC (aa (d := .v (.type "StopIteration")) m4) f4.E fun v s₅ G₅ k₅ r₅ => ?_
   have th5 := th4.go k₅.hp
   refine aG fun Z kZ => ?_
   obtain ⟨hx, tx, rfl, kx⟩ := k₅.k
   refine kZ ?_
   clear kZ Z
   refine aG fun Z kZ => ?_
   obtain ⟨oe, vs, T', oT, ts, he, hc, hd, _⟩ := th5.ex
   refine kZ ?_
   clear kZ Z
   refine ⟨r₅, ⟨oe, he, hc⟩, ?_⟩
   erw [if_pos rfl]
   refine ch th5 fun h6 th6 => ?_
   have f6 := f.thr (tk := tx) th6.keep th6.slot hLs
   refine bJ f6 (aa (d := .v (.ref nb)) m1) fun v s₇ G₇ f₇ r₇ => ?_
   obtain rfl : v = .ref nb := r₇
   exact hQ _ _ (f₇.eff (os := [(nb, .l []), (it, itK l 0), (LL, bP oLL)]) (List.Sublist.refl _))
set_option tactic.hygienic false
section
variable {prog : Program} {w : World} {A : Around} {wr : List Addr} {s₀ s s' : Shared} {G₀ G G' Gs : Mem} {env : Env} {ρ ρ' ρ₁ : List (Str × D)} {os os' rest : List (Addr × Kd)} {stm : List Stmt} {Q : Flow → Shared → Prop} {E : Value → Shared → Prop}
theorem kh {value : Expr} {k : Str} {kk : Nat} {p pos : Pos} {a : Addr} {o : Obj} {ds : List (Str × D)} {d : D} (hv : Ev (model prog w) A env ρ value (.g Gs (.ref a))) (ho : Gs a = some o) (hd : DkO prog w Gs o ds) (hm : (k, d) ∈ ds)
 (hs : ∀ o u, subscripted (.Constant (.str k) kk p) false (.ref o) (.str k u) = operate [.ref o, .str k u] (getItem (.ref o) (.str k u)) := by intro _ _; with_unfolding_all rfl) :
 Ev (model prog w) A env ρ (.Subscript value (.Constant (.str k) kk p) pos) d := by
 intro s G Q E hE hQ
 refine Subscript_ (hv s G _ _ hE fun o' s₁ G₁ k₁ r₁ => aT (prog := prog) (w := w) s₁ G₁ _ _ (hE.go k₁) fun i s₂ G₂ k₂ r₂ => ?_)
 obtain ⟨u, rfl⟩ := r₂
 obtain ⟨rfl, le⟩ := r₁
 have le₂ : Le Gs G₂ := le.tr k₂.le
 have e := k₂.sub _ _ (le₂ _ _ ho)
 have hT : s₂.TypeIs (.ref a) "dict" := by
  obtain ⟨kvs, ⟨es, ep, h1, _⟩, _⟩ := hd
  exact ⟨o, e, h1.1⟩
 exact kba_turn (value' := PySem.Expr.Name (PySem.Str.ofString "_") ⟨0, 0, 0, 0⟩) (fun ux => rfl) (subscriptTail_builtin hT slot_dict_getitem.lookup (o6 e (DkO.mono le₂ hd) hm fun v rv => hQ v _ G₂ ((k₁.tr k₂).tr (Kp.tok k₂.sub _)) rv) (hs _ _) (fun ux => rfl))
theorem oV {o e : Expr} {apos pos pos' : Pos} {a : Addr} {ds es : List D} (f : Fm wr s₀ G₀ env ρ ((a, .l ds) :: os) s G) (hx : Ev (model prog w) A env ρ o (.v (.ref a))) (hv : Ev (model prog w) A env ρ e (.l es)) (hsz : ds.length + es.length ≤ 1000000)
 (h : ∀ s' G', Fm wr s₀ G₀ env ρ ((a, .l (ds ++ es)) :: os) s' G' → wpAny (model prog w) A (execs stm env) Q E s')
 (hi : interactive env = false := by rfl) (hs : swapsWith (.Call (.Attribute o ("extend":Str) apos) [e] [] pos) none pos'.line env = pure false := by rfl)
 {pl : Sem Bool} (hm : eval (.Call (.Attribute o ("extend":Str) apos) [e] [] pos) env = (do
  let ov ← eval o env
  standAt apos.atName
  let (f, first) ← holding [ov] (getMethod ov ("extend":Str) pl)
  callWith pos f first (backTo pos (starEach [e] env)) []) := by rfl)
 (he : ∀ env, starEach (e :: []) env = (false, eval e env) :: starEach [] env := by intro _; rfl) :
 wpAny (model prog w) A (execs (.Expr (.Call (.Attribute o ("extend":Str) apos) [e] [] pos) pos' :: stm) env) Q E s := by
 refine de (MethodCall_ (hx s G _ _ f.E fun ov s₁ G₁ k₁ r₁ => ?_) hm) hi hs
 have r₁ : ov = .ref a := r₁
 subst r₁
 have f₁ := f.go k₁
 obtain ⟨g, na, ob, e₁, vs, n, rfl, r⟩ := f₁.S _ (.head _)
 have hd : ∀ b, Value.ref a = .ref b → ∃ o, s₁.heap.get? b = some o ∧ o.dict = none := fun b e => ⟨_, (Value.ref.inj e) ▸ e₁, rfl⟩
 refine getMethod_builtin ⟨_, e₁, rfl⟩ PySem.F.plainAttrs_list PySem.F.slot_list_extend PySem.F.type_list_extend hd ?_
 refine callWith_method1 ((ab hv ae he) pos s₁ G₁ _ _ f₁.E fun us s₂ G₂ k₂ r₂ => ?_) (he env)
 obtain ⟨v, us', rfl, ⟨b, ws, m, rfl, gb, rb⟩, e0⟩ := r₂
 have e0 : us' = [] := e0
 subst e0
 have f₂ := f₁.go k₂
 have hlen : vs.size = ds.length := by have := r.length; simpa using this
 have hlen2 : ws.size = es.length := by have := rb.length; simpa using this
 have ea := k₂.hp _ _ e₁
 have eb := k₂.sub _ _ gb
 have hz : vs.size + ws.size ≤ sizeLine := by erw [sizeLine_eq]; lia
 refine call_meets PySem.F.slot_list_extend ⟨_, ea, rfl⟩ PySem.F.entry_list_extend (PySem.F.args_list_extend_2 _ _) (AutoSeq1.list_extend_list_list_0 a vs n b ws m (extend_door hz) (Nat.le_trans (Nat.le_add_right _ _) hz)) ⟨ea, eb, ?_⟩
 have ho' : (s₂.heap.update a (Obj.mapSeq fun x => x ++ ws)).get? a = some { cls := .type "list", data := .seq (vs ++ ws) (if (vs ++ ws).size == vs.size then n else n + 1) } := by
  erw [Heap.get?_update_self _ ea (by erw [mapSeq_app]; rfl), mapSeq_app]
 exact h _ G₂ (f₂.mut0 (k' := .l (ds ++ es)) (t := s₂.toks) (Heap.SameBut.update ..) ho' ⟨_, _, rfl, by erw [Array.toList_append]; exact RpL.append (r.mono k₂.le) rb⟩)
end
set_option tactic.hygienic true in
theorem g6 {a : Int} {k : Nat} (h : a.natAbs < 2 ^ k) : Builtin.Int.intBits a ≤ k := by
 unfold Builtin.Int.intBits
 split
 · exact Nat.zero_le _
 · rcases Nat.eq_zero_or_pos a.natAbs with h0 | hp
   · rename_i hz
     exact absurd (by rw [Int.natAbs_eq_zero] at h0; erw [h0]; rfl) hz
   · have : a.natAbs.log2 < k := (Nat.log2_lt (Nat.ne_of_gt hp)).mpr h
     lia
noncomputable def Nb (a : Int) (k : Nat) : Prop := a.natAbs < 2 ^ k
theorem Nb.mono {a : Int} {k m : Nat} (h : Nb a k) (l : k ≤ m) : Nb a m := Nat.lt_of_lt_of_le h (Nat.pow_le_pow_right (by decide) l)
theorem Nb.mul {a b : Int} {k m : Nat} (h : Nb a k) (h' : Nb b m) : Nb (a * b) (k + m) := by
 unfold Nb at *
 erw [Int.natAbs_mul, Nat.pow_add]
 exact Nat.mul_lt_mul'' h h'
theorem Nb.sub {a b : Int} {k : Nat} (h : Nb a k) (h' : Nb b k) : Nb (a - b) (k + 1) := by
 unfold Nb at *
 erw [Nat.pow_succ]
 lia
theorem Nb.ok {a b : Int} (h : Nb a (2 ^ 20)) (h' : Nb b (2 ^ 20)) : IntMulOk a b := .of_bits (g6 h) (g6 h')
theorem mN (par : Nat → Nat) (v : Nat) : co par 6 v = aC [1, 2, 3, 4, 5] par v := by
 unfold co aC
 rw [show List.range 6 = 0 :: [1, 2, 3, 4, 5] from rfl, List.filter_cons_of_neg (by simp)] at ⊢
 apply List.filter_congr
 intro k hk
 have : 1 ≤ k := by
  simp only [List.mem_cons, List.not_mem_nil, or_false] at hk
  lia
 simp [this]
noncomputable def f0 : Nat → Nat
 | 0 => 0
 | n + 1 => 8 + 5 * (f0 n + 5)
noncomputable def eF : Nat → Nat
 | 0 => 0
 | n + 1 => 5 * (eF n + 1) + 7
theorem fo (par : Nat → Nat) (v : Nat) : (aC [1, 2, 3, 4, 5] par v).length ≤ 5 := List.length_filter_le _ _
structure JB (st : JS) (b l : Nat) (j : Nat) : Prop where
 w : Nb st.1 b
 u : Nb st.2.1 b
 o : st.2.2.1 ≤ j
 l : st.2.2.2.length ≤ l
theorem JB.step {st : JS} {b l j tb tl : Nat} {wt : Int} {t : (Int × Int) × List Int} (h : JB st b l j) (h0 : Nb t.1.1 tb) (h1 : Nb t.1.2 tb) (ht : t.2.length ≤ tl) (hw : Nb (wt ^ 2) 4) : JB (bh wt t st) (b + (tb + 5)) (l + (tl + 1)) (j + 1) := by
 unfold bh
 by_cases hz : t.1.1 = 0
 · erw [if_pos hz]
   refine ⟨h.w.mono (by lia), h.u.mono (by lia), ?_, ?_⟩
   · show st.2.2.1 + _ ≤ _
     have := h.o
     split <;> lia
   · show (st.2.2.2 ++ t.2).length ≤ _
     have := h.l
     erw [List.length_append]; lia
 · erw [if_neg hz]
   refine ⟨?_, (h.u.mul h0).mono (by lia), Nat.le_succ_of_le h.o, ?_⟩
   · show Nb (st.1 * t.1.1 - wt ^ 2 * t.1.2 * st.2.1) _
     exact (Nb.sub ((h.w.mul h0).mono (by lia : b + tb ≤ b + (tb + 4))) (((hw.mul h1).mul h.u).mono (by lia))).mono (by lia)
   · show (st.2.2.2 ++ t.2 ++ [_]).length ≤ _
     have := h.l
     erw [List.length_append, List.length_append, List.length_singleton]; lia
theorem JB.fold {wv : Nat → Int} {T : Nat → (Int × Int) × List Int} {tb tl : Nat} : ∀ {ks : List Nat} {st : JS} {b l j : Nat}, JB st b l j → (∀ k ∈ ks, Nb (T k).1.1 tb ∧ Nb (T k).1.2 tb ∧ (T k).2.length ≤ tl ∧ Nb (wv k ^ 2) 4) →
 JB (ks.foldl (fun st k => bh (wv k) (T k) st) st) (b + ks.length * (tb + 5)) (l + ks.length * (tl + 1)) (j + ks.length)
 | [], st, b, l, j, h, _ => by simpa using h
 | k :: ks, st, b, l, j, h, hk => by
   obtain ⟨h0, h1, h2, h3⟩ := hk k (.head _)
   have := JB.fold (ks := ks) (h.step h0 h1 h2 h3) fun x hx => hk x (.tail _ hx)
   erw [List.foldl_cons, List.length_cons]
   refine ⟨this.w.mono ?_, this.u.mono ?_, Nat.le_trans this.o ?_, Nat.le_trans this.l ?_⟩
   · erw [Nat.succ_mul]; lia
   · erw [Nat.succ_mul]; lia
   · lia
   · erw [Nat.succ_mul]; lia
theorem cN {par : Nat → Nat} {d w : Nat → Int} (hd : ∀ v, Nb (d v) 8) (hw : ∀ k, Nb (w k ^ 2) 4) : ∀ n v, Nb (jt [1, 2, 3, 4, 5] par d w n v).1.1 (f0 n) ∧ Nb (jt [1, 2, 3, 4, 5] par d w n v).1.2 (f0 n) ∧ (jt [1, 2, 3, 4, 5] par d w n v).2.length ≤ eF n
 | 0, v => ⟨by show (0 : Int).natAbs < 2 ^ 0; decide, by show (0 : Int).natAbs < 2 ^ 0; decide, Nat.le_refl _⟩
 | n + 1, v => by
   have base : JB (d v, 1, 0, []) 8 0 0 := ⟨hd v, by show (1 : Int).natAbs < 2 ^ 8; decide, Nat.le_refl _, Nat.le_refl _⟩
   have R := JB.fold (wv := w) (T := jt [1, 2, 3, 4, 5] par d w n) (ks := aC [1, 2, 3, 4, 5] par v) base fun k ux => ⟨(cN hd hw n k).1, (cN hd hw n k).2.1, (cN hd hw n k).2.2, hw k⟩
   have hk := fo par v
   have e : jt [1, 2, 3, 4, 5] par d w (n + 1) v = cG ((aC [1, 2, 3, 4, 5] par v).foldl (fun st k => bh (w k) (jt [1, 2, 3, 4, 5] par d w n k) st) (d v, 1, 0, [])) := rfl
   erw [e]
   generalize (aC [1, 2, 3, 4, 5] par v).foldl (fun st k => bh (w k) (jt [1, 2, 3, 4, 5] par d w n k) st) (d v, 1, 0, []) = st at R ⊢
   have m1 : (aC [1, 2, 3, 4, 5] par v).length * (f0 n + 5) ≤ 5 * (f0 n + 5) := Nat.mul_le_mul_right _ hk
   have m2 : (aC [1, 2, 3, 4, 5] par v).length * (eF n + 1) ≤ 5 * (eF n + 1) := Nat.mul_le_mul_right _ hk
   have Rl := R.l
   have Ro := R.o
   unfold cG
   by_cases hz : 0 < st.2.2.1
   · erw [if_pos hz]
     refine ⟨by show (0 : Int).natAbs < _; exact Nat.pow_pos (by decide), by show (0 : Int).natAbs < _; exact Nat.pow_pos (by decide), ?_⟩
     show (st.2.2.2 ++ (List.replicate (st.2.2.1 - 1) 0 ++ [1, -1])).length ≤ 5 * (eF n + 1) + 7
     simp only [List.length_append, List.length_replicate, List.length_cons, List.length_nil]
     lia
   · erw [if_neg hz]
     refine ⟨R.w.mono ?_, R.u.mono ?_, ?_⟩
     · show _ ≤ 8 + 5 * (f0 n + 5); lia
     · show _ ≤ 8 + 5 * (f0 n + 5); lia
     · show st.2.2.2.length ≤ 5 * (eF n + 1) + 7; lia
theorem mE : ∀ n, n ≤ 6 → f0 n ≤ 2 ^ 18 := by decide
theorem lenN_le : ∀ n, n ≤ 6 → eF n ≤ 100000 := by decide
set_option tactic.hygienic false
theorem mem_d (d w : Nat → Int) (o : Bool) (k : Nat) : (Str.ofString "d", D.i (d k)) ∈ dsP d w o k := by
 unfold dsP; cases o <;> exact .head _
theorem mem_w (d w : Nat → Int) (o : Bool) (k : Nat) : (Str.ofString "w", D.i (w k)) ∈ dsP d w o k := by
 unfold dsP; cases o
 · exact .tail _ (.head _)
 · exact .tail _ (.tail _ (.head _))
noncomputable def wst (par : Nat → Nat) (d w : Nat → Int) (n v j : Nat) : JS := ((aC [1, 2, 3, 4, 5] par v).take j).foldl (fun st k => bh (w k) (jt [1, 2, 3, 4, 5] par d w n k) st) (d v, 1, 0, [])
theorem q5 {par : Nat → Nat} {d w : Nat → Int} {n v j k : Nat} (h : (aC [1, 2, 3, 4, 5] par v)[j]? = some k) : wst par d w n v (j + 1) = bh (w k) (jt [1, 2, 3, 4, 5] par d w n k) (wst par d w n v j) := by
 unfold wst
 erw [List.take_succ, h, Option.toList_some, List.foldl_append]
 rfl
theorem wst_end {par : Nat → Nat} {d w : Nat → Int} {n v : Nat} : jt [1, 2, 3, 4, 5] par d w (n + 1) v = cG (wst par d w n v (aC [1, 2, 3, 4, 5] par v).length) := by
 unfold wst
 erw [List.take_length]
 rfl
theorem kO {par : Nat → Nat} {d w : Nat → Int} (hd : ∀ v, Nb (d v) 8) (hw : ∀ k, Nb (w k ^ 2) 4) (n v j : Nat) : JB (wst par d w n v j) (f0 (n + 1)) (j * (eF n + 1)) 5 := by
 have base : JB (d v, 1, 0, []) 8 0 0 := ⟨hd v, by show (1 : Int).natAbs < 2 ^ 8; decide, Nat.le_refl _, Nat.le_refl _⟩
 have R := JB.fold (wv := w) (T := jt [1, 2, 3, 4, 5] par d w n) (ks := (aC [1, 2, 3, 4, 5] par v).take j) base fun k ux => ⟨(cN hd hw n k).1, (cN hd hw n k).2.1, (cN hd hw n k).2.2, hw k⟩
 have hk := fo par v
 have h5 : ((aC [1, 2, 3, 4, 5] par v).take j).length ≤ 5 := by erw [List.length_take]; lia
 have hj : ((aC [1, 2, 3, 4, 5] par v).take j).length ≤ j := by erw [List.length_take]; lia
 have m1 := Nat.mul_le_mul_right (f0 n + 5) h5
 have x2 := Nat.mul_le_mul_right (eF n + 1) hj
 refine ⟨R.w.mono ?_, R.u.mono ?_, Nat.le_trans R.o (by lia), Nat.le_trans R.l (by lia)⟩
 · show _ ≤ 8 + 5 * (f0 n + 5); lia
 · show _ ≤ 8 + 5 * (f0 n + 5); lia
noncomputable abbrev ii (g : Heap) (Gt : Mem) (a : Addr) (c : Int) (sa : Addr) : List (Str × D) := [(("node":Str), .g Gt (.ref a)), ("c", .i c), ("signs", .v (.ref sa)), ("_law_walk", .g g.get? (.ref 99))]
set_option maxRecDepth 100000 in
set_option maxHeartbeats 8000000 in
theorem ct_walk {w' : World} {g : Heap} {p : Program} {loose : List Str} {mean : ExcName → Option Value} {mg mb : Str → Option Value} (X : (hd.heap_39 w'.params).In g) (T : Top p loose mean mg mb g)
 {Gt : Mem} {par : Nat → Nat} {d w : Nat → Int} {odd : Nat → Bool} {fs Ls ats : Nat → Addr} (hT : TreeF Challenge.rw_wb0032_01.row.prog w' Gt par d w odd fs Ls ats) (hp : ∀ k, 1 ≤ k → k < 6 → par k < k) {c : Int} (hd : ∀ v, Nb (d v - c) 8) (hw : ∀ k, Nb (w k ^ 2) 4) (hw2 : ∀ k, Nb (w k) 4) :
 ∀ (n v : Nat) {A : Around} (hA : A.handled = none) (hroom : A.depth + n < recursionLimit) {s : Shared} {G : Mem} {Q E : Value → Shared → Prop} {vs : List Value} {sa : Addr} {sg : List Int}, v < 6 → n ≤ 6 → 6 ≤ n + v → In G s.heap → Le g.get? G → Le Gt G → RpL G [.v (.ref (fs v)), .i c, .v (.ref sa)] vs → Held G s.heap [(sa, .l (sg.map .i))] → sg.length + eF n ≤ 900000 →
   (∀ s' G' u, Eff [(sa, .l (sg.map .i))] [(sa, .l ((sg ++ (jt [1, 2, 3, 4, 5] par (fun x => d x - c) w n v).2).map .i))] s G s' G' → Rp G' (.t [.i (jt [1, 2, 3, 4, 5] par (fun x => d x - c) w n v).1.1, .i (jt [1, 2, 3, 4, 5] par (fun x => d x - c) w n v).1.2]) u → Q u s') → wpAny (model Challenge.rw_wb0032_01.row.prog w') A (call (.ref 99) vs) Q E s := by
 revert X
 k_fill
 intro X
 have h99 := X 99 _ (by k_is)
 intro n
 induction n with
 | zero => intro v A hA hroom s G Q E vs sa sg hv _ h6; lia
 | succ n ih =>
   intro v A hA hroom s G Q E vs sa sg hv hn h6 hin hle hlt hvs hh hlen hQ
   refine k_viv (Z := fun vs => wpAny _ _ (call _ vs _) _ _ _) hvs fun t₂ => ?_
   have hroom0 : A.depth < recursionLimit := by lia
   have hbn := mE (n + 1) hn
   have hbn2 : f0 (n + 1) ≤ 2 ^ 20 := Nat.le_trans hbn (by decide)
   have hbn0 : f0 n ≤ 2 ^ 18 := mE n (by lia)
   have hln : eF (n + 1) = 5 * (eF n + 1) + 7 := rfl
   refine aG fun Z kZ => ?_
   obtain ⟨hNv, ov, eov, kov⟩ := hT.1 v hv
   refine kZ ?_
   clear kZ Z
   refine Node.exK hNv fun mv tv mav hFv ux hav hiv ux ux ux => ?_
   obtain ⟨oin, ein, kin⟩ := hT.2 v hv
   k_dflt (refine' bo (os := [(sa, Kd.l (sg.map .i))]) (ρ := (ii g Gt (fs v) c sa)) X T hroom0 hin hle ?ho ?hcd ?hbody ?hbind ?hclo ?hkind ?hnd ?gl ?bu ?hos ?hod ?hρ ?hrun ?hco ?hgen ?hk; ((case ho | hcd => k_is); (case hnd => decide +kernel); (case hbody | hclo | gl | bu | hco | hgen | hk => exact rfl)); (case hbind => exact BindsTo.of_eq rfl); (case hkind => exact rfl); (case hos => exact hh.1); (case hod => exact hh.2))
   case hρ =>
    intro h L hn hc hg hb
    repeat' first | exact List.forall_mem_nil _ | with_reducible refine aM ?_ ?_
    · exact al hn rfl rfl rfl ⟨rfl, hlt⟩
    · exact al hn rfl rfl rfl ⟨_, rfl⟩
    · exact al hn rfl rfl rfl rfl
    · exact bi hg rfl rfl (mg_of X T.g (by k_is)) hle
   case hrun =>
    intro s₁ L f₁
    refine cp fun E' => ?_
    refine gs (ds := [.i (d v - c), .i 1, .i 0]) (names := [("worth":Str), ("under":Str), ("noughts":Str)]) (ρ' := ((("worth":Str), .i (d v - c)) :: ("under", .i 1) :: ("noughts", .i 0) :: ii g Gt (fs v) c sa)) (by exact hA) f₁ (bp (ab (ag (kh (aZ (dd := .g Gt (.ref (ats v))) (aa m0) hFv hav (by decide +kernel) dJ fun ux le => ⟨rfl, le⟩) eov kov (mem_d d w (odd v) v)) (aa m1) bL) (ab ad (ab ad ae))) (by simp)) (aI ar af (aI ar af (aI ar af bq))) fun s₂ G₂ f₂ => ?_
    refine dh (xs := (co par 6 v).map fun k => .v (.ref (fs k))) (fun j => ((("worth":Str), .i (wst par (fun x => d x - c) w n v j).1) :: ("under", .i (wst par (fun x => d x - c) w n v j).2.1) :: ("noughts", .i ((wst par (fun x => d x - c) w n v j).2.2.1 : Nat)) :: ii g Gt (fs v) c sa)) (fun j => [(sa, Kd.l ((sg ++ (wst par (fun x => d x - c) w n v j).2.2.2).map .i))])
     (by erw [show (wst par (fun x => d x - c) w n v 0).2.2.2 = [] from rfl, List.append_nil]; exact f₂) (bg (by exact hA) (aZ (aa m3) hFv hiv (by decide +kernel) dJ fun G le => ?hlist)) ?turn ?hend
    case hlist =>
     refine aG fun Z kZ => ?_
     obtain ⟨vs, k, rfl, rr⟩ := kin
     refine kZ ?_
     clear kZ Z
     exact ⟨_, vs, k, rfl, le _ _ ein, rr.mono le⟩
    case hend =>
     intro s' G' E' f
     rw [List.length_map, mN] at f
     refine wpAny_execs_nil ?_
     have J := kO (par := par) hd hw n v (aC [1, 2, 3, 4, 5] par v).length
     have hkl := fo par v
     have x2 := Nat.mul_le_mul_right (eF n + 1) hkl
     have Jl := J.l
     have Jo := J.o
     rw [wst_end] at hQ
     generalize wst par (fun x => d x - c) w n v (aC [1, 2, 3, 4, 5] par v).length = st at f hQ J Jl Jo
     refine bB (c := decide ((st.2.2.1 : Int) > 0)) f (aj (aa m2) ad gu) (fun s₃ G₃ f₃ hc => ?_) (fun s₃ G₃ f₃ hc => ?_)
     · have hc : (st.2.2.1 : Int) > 0 := of_decide_eq_true hc
       have hj : cG st = ((0, 0), st.2.2.2 ++ (List.replicate (st.2.2.1 - 1) 0 ++ [1, -1])) := by unfold cG; erw [if_pos (by lia)]
       rw [hj] at hQ
       refine oV (es := (List.replicate (st.2.2.1 - 1) (0 : Int) ++ [1, -1]).map .i) f₃ (aa m5) (ah (ag (ag (bc (ab ad ae) (by simp)) (ag (aa m2) ad bL) (iM (by lia) (by simp) ?hz1)) (bc (ab ad (ab (gI ad dT) ae)) (by simp)) (bE ?hz2)) ?hcv) ?hz3 fun s₄ G₄ f₄ => ?_
       case hz1 => simp; lia
       case hz2 => simp; lia
       case hz3 => simp; lia
       case hcv =>
        erw [show ((st.2.2.1 : Int) - 1).toNat = st.2.2.1 - 1 by lia, List.map_append, List.map_replicate]
        congr 2
        simp
       rw [← List.map_append, List.append_assoc] at f₄
       refine bJ (d := .t [.i 0, .i 0]) f₄ (bp (ab ad (ab ad ae)) (by simp)) fun u s₅ G₅ f₅ r₅ => ?_
       exact hQ _ _ _ (f₅.eff (os := [(sa, .l (sg.map .i))]) (List.Sublist.refl _)) r₅
     · have hc : ¬ (st.2.2.1 : Int) > 0 := of_decide_eq_false hc
       have hj : cG st = ((st.1, st.2.1), st.2.2.2) := by unfold cG; erw [if_neg (by lia)]
       rw [hj] at hQ
       refine wpAny_execs_nil ?_
       refine bJ (d := .t [.i st.1, .i st.2.1]) f₃ (bp (ab (aa m0) (ab (aa m1) ae)) (by simp)) fun u s₅ G₅ f₅ r₅ => ?_
       exact hQ _ _ _ (f₅.eff (os := [(sa, .l (sg.map .i))]) (List.Sublist.refl _)) r₅
    case turn =>
     intro j e hdi
     rw [List.getElem?_map] at hdi
     obtain ⟨k, hk, rfl⟩ := Option.map_eq_some_iff.mp hdi
     obtain ⟨hk1, hk6, hkp⟩ := mF (List.mem_of_getElem? hk)
     have hvk : v < k := by have := hp k hk1 hk6; lia
     rw [mN] at hk
     have hj : j < 5 := by
      have := fo par v
      have := (List.getElem?_eq_some_iff.mp hk).1
      lia
     refine ⟨_, bS ar af, fun wr s₀ G₀ s' G₁ E' Qt kQt f => ?_⟩
     have J := kO (par := par) hd hw n v j
     have hwst := q5 (par := par) (d := (fun x => d x - c)) (w := w) (n := n) hk
     have x2 := Nat.mul_le_mul_right (eF n + 1) (show j ≤ 4 by lia)
     have Jl := J.l
     obtain ⟨ht0, ht1, ht2⟩ := cN (par := par) hd hw n k
     have hltG : Le Gt G₁ := f.leOf (x := "node") m4
     generalize wst par (fun x => d x - c) w n v j = st at f J Jl hwst
     have f := f.say2B ["one"] (ρ' := ((("one":Str), .g G₁ (.ref (fs k))) :: ("worth", .i st.1) :: ("under", .i st.2.1) :: ("noughts", .i (st.2.2.1 : Nat)) :: ii g Gt (fs v) c sa))
     have hTk := hT.mono hltG
     refine aG fun Z kZ => ?_
     obtain ⟨hNk, ok, eok, kok⟩ := hTk.1 k hk6
     refine kZ ?_
     clear kZ Z
     refine Node.exK hNk fun mk tk mak hFk ux hak ux ux ux ux => ?_
     refine aP (wr := wr) (s₀ := s₀) (G₀ := G₀) ar ?hcall
     refine cj (kn := []) (dF := .g g.get? (.ref 99)) (ds := [.g G₁ (.ref (fs k)), .i c, .v (.ref sa)]) (kds := []) (o := _) (fd := _) f (m6 m1) (fun ux ux h => h.1) (fun s' G' f' => f'.E.sub _ _ (f'.leOf (x := "_law_walk") (u := .ref 99) (Gs := g.get?) (m6 m1) _ _ h99)) rfl (ab (aa m0) (ab (aa m5) (ab (aa (m6 m0)) ae))) bl fun s₂ G₂ vs ks f₂ le₂ rv rk => ?_
     refine ih k (A := A.deeper _) hA (by show A.depth + 1 + n < _; lia) hk6 (by lia) (by lia) f₂.E.sub (f₂.leOf (x := "_law_walk") (m6 m1)) (f₂.leOf (x := "node") m4) (rgv rv) f₂.held (by erw [List.length_append]; lia) fun s₃ G₃ u ef ru => ?_
     have f₃ := f₂.called (os := [(sa, Kd.l ((sg ++ st.2.2.2).map .i))]) (rest := []) ef fun b hb ux => hb
     generalize jt [1, 2, 3, 4, 5] par (fun x => d x - c) w n k = t at f₃ ru hwst ht0 ht1 ht2
     have ht0' : Nb t.1.1 (2 ^ 20) := ht0.mono (Nat.le_trans hbn0 (by decide))
     have ht1' : Nb t.1.2 (2 ^ 20) := ht1.mono (Nat.le_trans hbn0 (by decide))
     have hw1' : Nb st.1 (2 ^ 20) := J.w.mono hbn2
     have hu1' : Nb st.2.1 (2 ^ 20) := J.u.mono hbn2
     refine cL (d := .t [.i t.1.1, .i t.1.2])  f₃ ru af fun s₄ f₄ => ?_
     refine bB (c := t.1.1 == 0) f₄ (aj (au (k := 0) (d := .i t.1.1) (aa m0) ad (by decide) (by decide) rfl) ad eA) (fun s₅ G₅ f₅ hc => ?_) (fun s₅ G₅ f₅ hc => ?_)
     · have hc : t.1.1 = 0 := by simpa using hc
       have e : wst par (fun x => d x - c) w n v (j + 1) = (st.1, st.2.1, st.2.2.1 + (if t.1.2 ≠ 0 then 1 else 0), st.2.2.2 ++ t.2) := by erw [hwst]; unfold bh; erw [if_pos hc]
       refine jY (hl := .inl rfl) (da := .i (st.2.2.1 : Nat)) (db := .i (if t.1.2 ≠ 0 then 1 else 0)) (d := .i ((st.2.2.1 + (if t.1.2 ≠ 0 then 1 else 0) : Nat))) f₅ m4 (ah (dc (c := t.1.2 != 0) (d := .i 1) (e := .i 0) (aj (au (k := 1) (d := .i t.1.2) (aa m0) ad (by decide) (by decide) rfl) ad lW) (fun ux => ad) (fun ux => ad)) ?hcv2) (iF ni ?hcv3) ar (ρ' := ((("worth":Str), .i st.1) :: ("under", .i st.2.1) :: ("noughts", .i ((st.2.2.1 + (if t.1.2 ≠ 0 then 1 else 0) : Nat))) :: ii g Gt (fs v) c sa)) aU fun s₆ G₆ f₆ => ?_
       case hcv2 => by_cases h : t.1.2 = 0 <;> simp [h]
       case hcv3 => by_cases h : t.1.2 = 0 <;> simp [h]
       refine wpAny_execs_nil (wpAny_execs_nil (kQt _ G₆ ?_))
       erw [e, ← List.append_assoc]
       exact f₆
     · have hc : t.1.1 ≠ 0 := by simpa using hc
       have e : wst par (fun x => d x - c) w n v (j + 1) = (st.1 * t.1.1 - w k ^ 2 * t.1.2 * st.2.1, st.2.1 * t.1.1, st.2.2.1, st.2.2.2 ++ t.2 ++ [if 0 < t.1.1 * t.1.2 then 1 else -1]) := by erw [hwst]; unfold bh; erw [if_neg hc]
       refine c9 (d := .i (if 0 < t.1.1 * t.1.2 then 1 else -1)) f₅ (aa (m6 m1)) (ah (dc (c := decide (t.1.1 * t.1.2 > 0)) (d := .i 1) (e := .i (-1)) (aj (ag (au (k := 0) (d := .i t.1.1) (aa m0) ad (by decide) (by decide) rfl) (au (k := 1) (d := .i t.1.2) (aa m0) ad (by decide) (by decide) rfl) (dw (Nb.ok ht0' ht1'))) ad gu) (fun ux => ad) (fun ux => gI ad dT)) ?hcv4) ?hz4 fun s₆ G₆ f₆ => ?_
       case hcv4 => by_cases h : 0 < t.1.1 * t.1.2 <;> simp [h]
       case hz4 => simp; lia
       refine gs (ds := [.i (st.1 * t.1.1 - w k ^ 2 * t.1.2 * st.2.1), .i (st.2.1 * t.1.1)]) (names := [("worth":Str), ("under":Str)]) (ρ' := ((("worth":Str), .i (st.1 * t.1.1 - w k ^ 2 * t.1.2 * st.2.1)) :: ("under", .i (st.2.1 * t.1.1)) :: ("noughts", .i (st.2.2.1 : Nat)) :: ii g Gt (fs v) c sa)) (by exact hA) f₆ (bp (ab (ag (ag (aa m2) (au (k := 0) (d := .i t.1.1) (aa m0) ad (by decide) (by decide) rfl) (dw (Nb.ok hw1' ht0'))) (ag (ag (ag (kh (aZ (dd := .g G₁ (.ref (ats k))) (aa m1) hFk hak (by decide +kernel) dJ fun ux le => ⟨rfl, le⟩) eok kok (mem_w d w (odd k) k)) ad (ik (by decide) ?hpw)) (au (k := 1) (d := .i t.1.2) (aa m0) ad (by decide) (by decide) rfl) (dw ?hm1)) (aa m3) (dw ?hm2)) bL) (ab (ag (aa m3) (au (k := 0) (d := .i t.1.1) (aa m0) ad (by decide) (by decide) rfl) (dw (Nb.ok hu1' ht0'))) ae)) (by simp)) (aI ar (ρ₁ := ((("under":Str), .i (st.2.1 * t.1.1)) :: ("one", .g G₁ (.ref (fs k))) :: ("worth", .i st.1) :: ("noughts", .i (st.2.2.1 : Nat)) :: ii g Gt (fs v) c sa)) aU (aI ar aU bq)) fun s₇ G₇ f₇ => ?_
       case hpw => have := g6 (hw2 k); lia
       case hm1 => exact Nb.ok ((hw k).mono (by decide)) ht1'
       case hm2 => exact Nb.ok (((hw k).mul ht1).mono (by lia)) hu1'
       refine wpAny_execs_nil (wpAny_execs_nil (kQt _ G₇ ?_))
       erw [e]
       rw [← List.append_assoc, ← List.append_assoc, List.map_append]
       exact f₇
set_option tactic.hygienic false
noncomputable def aA (prog : Program) (w : World) (dom : Int → Prop) (ν : Int → D) (must : Int → Prop) : Kd := .p (fun G o => ∃ kvs, o.IsDictOf (intKind prog w) kvs ∧ (∀ p ∈ kvs, dom p.1 ∧ Rp G (ν p.1) p.2) ∧ ∀ c, must c → (PySem.valueAt kvs c).isSome = true) fun ux ux ux le h => let ⟨kvs, a, b, c⟩ := h; ⟨kvs, a, fun p hp => ⟨(b p hp).1, (b p hp).2.mono le⟩, c⟩
theorem nodup_range : ∀ (n : Nat) (a : Int) (l : List Int), l.Nodup → (∀ x ∈ l, a ≤ x ∧ x < a + n) → l.length ≤ n
 | 0, a, l, _, h => by
   cases l with
   | nil => exact Nat.le_refl _
   | cons x r => have := h x (.head _); lia
 | n + 1, a, l, hn, h => by
   by_cases hm : a + n ∈ l
   · have := nodup_range n a (l.erase (a + n)) (hn.erase _) fun x hx => by
      have h1 := (List.Nodup.mem_erase_iff hn).mp hx
      have := h x h1.2
      have := h1.1
      lia
     rw [List.length_erase_of_mem hm] at this
     lia
   · have := nodup_range n a l hn fun x hx => by
      have h1 := h x hx
      have : x ≠ a + n := fun q => hm (q ▸ hx)
      lia
     lia
theorem mq {K : Type} [DecidableEq K] {kvs : List (K × Value)} {k : K} {v : Value} {p : K × Value} (h : p ∈ PySem.stored kvs k v) : p ∈ kvs ∨ p = (k, v) := by
 unfold PySem.stored at h
 split at h
 · obtain ⟨q, hq, rfl⟩ := List.mem_map.mp h
   by_cases e : q.1 = k
   · erw [if_pos e]; exact .inr (by erw [e])
   · erw [if_neg e]; exact .inl hq
 · rcases List.mem_append.mp h with q | q
   · exact .inl q
   · exact .inr (List.mem_singleton.mp q)
theorem lK {K : Type} [DecidableEq K] {kvs : List (K × Value)} {k : K} {v : Value} (h : PySem.valueAt kvs k = some v) : (k, v) ∈ kvs := by
 unfold PySem.valueAt at h
 obtain ⟨q, hq, rfl⟩ := Option.map_eq_some_iff.mp h
 have := List.find?_some hq
 have e : q.1 = k := by simpa using this
 rw [← e]
 exact List.mem_of_find?_eq_some hq
theorem jO {K : Type} [DecidableEq K] {kvs : List (K × Value)} {k : K} (h : ∃ p ∈ kvs, p.1 = k) : (PySem.valueAt kvs k).isSome = true := by
 obtain ⟨p, hp, e⟩ := h
 unfold PySem.valueAt
 erw [Option.isSome_map]
 cases q : kvs.find? (fun kv => decide (kv.1 = k)) with
 | some _ => rfl
 | none => exact absurd (by simpa using e) (by simpa using List.find?_eq_none.mp q p hp)
set_option tactic.hygienic true in
theorem lL {K : Type} [DecidableEq K] {kvs : List (K × Value)} {k : K} {v : Value} : ∃ p ∈ PySem.stored kvs k v, p.1 = k := by
 unfold PySem.stored
 split
 · rename_i h
   obtain ⟨q, hq, e⟩ := List.any_eq_true.mp h
   have e : q.1 = k := by simpa using e
   exact ⟨_, List.mem_map.mpr ⟨q, hq, rfl⟩, by erw [if_pos e]; exact e⟩
 · exact ⟨(k, v), List.mem_append_right _ (.head _), rfl⟩
section
variable {prog : Program} {w : World} {A : Around} {wr : List Addr} {s₀ s s' : Shared} {G₀ G G' Gs : Mem} {env : Env} {ρ ρ' ρ₁ : List (Str × D)} {os os' rest : List (Addr × Kd)} {dom : Int → Prop} {ν : Int → D} {must : Int → Prop} {bk : Addr} {c : Int}
theorem Fm.sayO {a : Addr} {k k' : Kd} (f : Fm wr s₀ G₀ env ρ ((a, k) :: os) s G) (h : ∀ o, s.heap.get? a = some o → k.ok G o → k'.ok G o) : Fm wr s₀ G₀ env ρ ((a, k') :: os) s G := by
 refine ⟨f.K, f.E, f.O, fun p hp => ?_, f.N, f.F, f.W⟩
 rcases List.mem_cons.mp hp with rfl | hp
 · obtain ⟨g, n, o, e, q⟩ := f.S _ (.head _)
   exact ⟨g, n, o, e, h o e q⟩
 · exact f.S p (.tail _ hp)
theorem jk (f : Fm wr s₀ G₀ env ρ ((bk, aA prog w dom ν must) :: os) s G) : Fm wr s₀ G₀ env ρ ((bk, aA prog w dom ν fun ux => False) :: os) s G :=
 f.sayK fun o ⟨kvs, a, b, _⟩ => ⟨kvs, a, b, fun ux h => h.elim⟩
theorem lN {u : Tok} {Q : Value → Shared → Prop} {E : Value → Shared → Prop} (f : Fm wr s₀ G₀ env ρ ((bk, aA prog w dom ν must) :: os) s G) (hbk : (bk == sysModules) = false)
 (h0 : ∀ s', Fm wr s₀ G₀ env ρ ((bk, aA prog w dom ν must) :: os) s' G → Q (.bool true) s') (h1 : ∀ s', Fm wr s₀ G₀ env ρ ((bk, aA prog w dom ν (· = c)) :: os) s' G → Q (.bool false) s') : wpAny (model prog w) A (compareOp .NotIn (.int c u) (.ref bk)) Q E s := by
 obtain ⟨_, _, o, e, kvs, hi, hv, hm⟩ := f.S _ (.head _)
 have x : s.heap.DictOf (intKind prog w) bk kvs := Heap.dictOf_iff.mpr ⟨o, e, hi⟩
 refine wpAny_notIn_of (intKind_is prog w c u) hbk x.mapOf ?_
 have K : Kp s G { s with toks := s.toks + 1 } G := Kp.tok f.E.sub _
 cases q : (PySem.valueAt kvs c).isSome with
 | false => exact h0 _ (f.go K)
 | true =>
   refine h1 _ ((f.go K).sayO fun o' e' ux => ?_)
   have e' : s.heap.get? bk = some o' := e'
   rw [e] at e'
   cases e'
   exact ⟨kvs, hi, hv, fun c' hc => by erw [hc]; exact q⟩
theorem jp {u : Tok} {Q : Value → Shared → Prop} {E : Value → Shared → Prop} (f : Fm wr s₀ G₀ env ρ ((bk, aA prog w dom ν must) :: os) s G) (hc : must c)
 (h : ∀ v s', Fm wr s₀ G₀ env ρ ((bk, aA prog w dom ν must) :: os) s' G → Rp G (ν c) v → Q v s') : wpAny (model prog w) A (getItem (.ref bk) (.int c u)) Q E s := by
 obtain ⟨_, _, o, e, kvs, hi, hv, hm⟩ := f.S _ (.head _)
 have x : s.heap.DictOf (intKind prog w) bk kvs := Heap.dictOf_iff.mpr ⟨o, e, hi⟩
 obtain ⟨v, hv'⟩ := Option.isSome_iff_exists.mp (hm c hc)
 exact wpAny_getItem_of (intKind_is prog w c u) x.mapOf hv' (h v _ (f.go (Kp.tok f.E.sub _)) (hv _ (lK hv')).2)
theorem lM {u : Tok} {v : Value} {Q : Unit → Shared → Prop} {E : Value → Shared → Prop} (f : Fm wr s₀ G₀ env ρ ((bk, aA prog w dom ν must) :: os) s G) (hdom : ∀ c, dom c → -1000 ≤ c ∧ c < -1000 + (2000 : Nat)) (hc : dom c) (hr : Rp G (ν c) v)
 (h : ∀ s', Fm wr s₀ G₀ env ρ ((bk, aA prog w dom ν (· = c)) :: os) s' G → Q () s') : wpAny (model prog w) A (setItem (.ref bk) (.int c u) v) Q E s := by
 obtain ⟨_, _, o, e, kvs, hi, hv, hm⟩ := f.S _ (.head _)
 have x : s.heap.DictOf (intKind prog w) bk kvs := Heap.dictOf_iff.mpr ⟨o, e, hi⟩
 have hl : kvs.length ≤ 2000 := by
  have hn : (kvs.map (·.1)).Nodup := by obtain ⟨_, _, _, _, _, _, hn⟩ := hi; exact hn
  have := nodup_range 2000 (-1000) _ hn fun c hc => by
   obtain ⟨p, hp, rfl⟩ := List.mem_map.mp hc
   exact hdom _ (hv p hp).1
  rwa [List.length_map] at this
 refine wpAny_setItem_pairs (hsz := by erw [sizeLine_eq]; lia) (intKind_is prog w c u) x fun h' hd' hs' => ?_
 obtain ⟨o', e', i'⟩ := Heap.dictOf_iff.mp hd'
 refine h _ (f.mut0 (k' := aA prog w dom ν (· = c)) (t := s.toks + 1) hs' e' ⟨_, i', fun p hp => ?_, fun c' hc' => ?_⟩)
 · rcases mq hp with q | rfl
   · exact hv p q
   · exact ⟨hc, hr⟩
 · erw [hc']; exact jO lL
theorem o7 {a b c d : Int} (hu : A.units + 64 < cLine) : Cmp (model prog w) A .NotEq (.t [.i a, .i b]) (.t [.i c, .i d]) (.b (!(decide (a = c) && decide (b = d)))) := by
 have e : eqd (.t [.i a, .i b]) (.t [.i c, .i d]) = (decide (a = c) && decide (b = d)) := by
  unfold eqd
  simp only [toP, gR, PyData.eqv, PyData.eqvAll]
  by_cases h1 : a = c <;> by_cases h2 : b = d <;> simp [h1, h2]
 rw [← e]
 exact eW (by simp [okd, dat, ki, toP, gR, SeqAt.shaped, PyData.canLay0, PyData.canLayAll0, PyData.depth, PyData.depthAll]) (by simp [okd, dat, ki, toP, gR, SeqAt.shaped, PyData.canLay0, PyData.canLayAll0, PyData.depth, PyData.depthAll]) hu
end
set_option tactic.hygienic false
section
variable {prog : Program} {w : World} {A : Around} {wr : List Addr} {s₀ s s' : Shared} {G₀ G G' : Mem} {env : Env} {ρ ρ' ρ₁ : List (Str × D)} {os os' : List (Addr × Kd)} {rest : List Stmt} {Q : Flow → Shared → Prop} {E : Value → Shared → Prop}
theorem go_ifJ {test : Expr} {body orelse : List Stmt} {pos : Pos} {c : Bool} (f : Fm wr s₀ G₀ env ρ os s G) (ht : Tst (model prog w) A env ρ test c)
 (hb : ∀ s' G', Fm wr s₀ G₀ env ρ os s' G' → c = true → wpAny (model prog w) A (execs body env) (fun fl s₂ => fl = .next ∧ ∃ G₂, Fm wr s₀ G₀ env ρ' os' s₂ G₂) E s')
 (ho : ∀ s' G', Fm wr s₀ G₀ env ρ os s' G' → c = false → wpAny (model prog w) A (execs orelse env) (fun fl s₂ => fl = .next ∧ ∃ G₂, Fm wr s₀ G₀ env ρ' os' s₂ G₂) E s')
 (h : ∀ s' G', Fm wr s₀ G₀ env ρ' os' s' G' → wpAny (model prog w) A (execs rest env) Q E s') : wpAny (model prog w) A (execs (.If test body orelse pos :: rest) env) Q E s := by
 refine bB (c := c) f ht (fun s' G' f' hc => wpAny_mono (hb s' G' f' hc) (fun fl s₂ h₂ => ?_) fun ux ux e => e) (fun s' G' f' hc => wpAny_mono (ho s' G' f' hc) (fun fl s₂ h₂ => ?_) fun ux ux e => e)
 · obtain ⟨rfl, G₂, f₂⟩ := h₂
   exact h s₂ G₂ f₂
 · obtain ⟨rfl, G₂, f₂⟩ := h₂
   exact h s₂ G₂ f₂
theorem jd {dom : Int → Prop} {ν : Int → D} {must : Int → Prop} {bk : Addr} (f : Fm wr s₀ G₀ env ρ ((bk, aA prog w dom ν must) :: os) s G) : s.TypeIs (.ref bk) "dict" := by
 obtain ⟨_, _, o, e, kvs, ⟨es, ep, hx, _⟩, _⟩ := f.S _ (.head _)
 exact ⟨o, e, hx.1⟩
end
noncomputable def nuD (par : Nat → Nat) (d w : Nat → Int) (c : Int) : D := .t [.i (cnt par d w c).1, .i (cnt par d w c).2]
noncomputable abbrev cntT (g : Heap) (Gt : Mem) (a : Addr) (c : Int) (bk : Addr) : List (Str × D) := [(("root":Str), .g Gt (.ref a)), ("c", .i c), ("book", .v (.ref bk)), ("_law_walk", .g g.get? (.ref 99))]
set_option maxRecDepth 100000 in
set_option maxHeartbeats 8000000 in
theorem nX {w' : World} {A : Around} {g : Heap} {p : Program} {loose : List Str} {mean : ExcName → Option Value} {mg mb : Str → Option Value} (X : (hd.heap_39 w'.params).In g) (T : Top p loose mean mg mb g) (hA : A.handled = none) (hroom : A.depth + 7 < recursionLimit) (hU : A.units + 67 < cLine)
 {Gt : Mem} {par : Nat → Nat} {d w : Nat → Int} {odd : Nat → Bool} {fs Ls ats : Nat → Addr} (hT : TreeF Challenge.rw_wb0032_01.row.prog w' Gt par d w odd fs Ls ats) (hp : ∀ k, 1 ≤ k → k < 6 → par k < k) {c : Int} (hd : ∀ v, Nb (d v - c) 8) (hw : ∀ k, Nb (w k ^ 2) 4) (hw2 : ∀ k, Nb (w k) 4)
 {dom : Int → Prop} (hdom : ∀ c, dom c → -1000 ≤ c ∧ c < -1000 + (2000 : Nat)) (hc : dom c) {bk : Addr} (hbk : (bk == sysModules) = false)
 {s : Shared} {G : Mem} {Q E : Value → Shared → Prop} {vs : List Value} (hin : In G s.heap) (hle : Le g.get? G) (hlt : Le Gt G) (hvs : RpL G [.v (.ref (fs 0)), .i c, .v (.ref bk)] vs) (hh : Held G s.heap [(bk, aA Challenge.rw_wb0032_01.row.prog w' dom (nuD par d w) fun ux => False)])
 (hQ : ∀ s' G' u, Eff [(bk, aA Challenge.rw_wb0032_01.row.prog w' dom (nuD par d w) fun ux => False)] [(bk, aA Challenge.rw_wb0032_01.row.prog w' dom (nuD par d w) fun ux => False)] s G s' G' → Rp G' (nuD par d w c) u → Q u s') : wpAny (model Challenge.rw_wb0032_01.row.prog w') A (call (.ref 106) vs) Q E s := by
 refine k_viv (Z := fun vs => wpAny _ _ (call _ vs _) _ _ _) hvs fun t₂ => ?_
 have hroom0 : A.depth < recursionLimit := by lia
 revert X
 k_fill
 intro X
 have h99 := X 99 _ (by k_is)
 k_dflt (refine' bo (os := [(bk, aA Challenge.rw_wb0032_01.row.prog w' dom (nuD par d w) fun ux => False)]) (ρ := (cntT g Gt (fs 0) c bk)) X T hroom0 hin hle ?ho ?hcd ?hbody ?hbind ?hclo ?hkind ?hnd ?gl ?bu ?hos ?hod ?hρ ?hrun ?hco ?hgen ?hk; ((case ho | hcd => k_is); (case hnd => decide +kernel); (case hbody | hclo | gl | bu | hco | hgen | hk => exact rfl)); (case hbind => exact BindsTo.of_eq rfl); (case hkind => exact rfl); (case hos => exact hh.1); (case hod => exact hh.2))
 case hρ =>
  intro h L hn hc hg hb
  repeat' first | exact List.forall_mem_nil _ | with_reducible refine aM ?_ ?_
  · exact al hn rfl rfl rfl ⟨rfl, hlt⟩
  · exact al hn rfl rfl rfl ⟨_, rfl⟩
  · exact al hn rfl rfl rfl rfl
  · exact bi hg rfl rfl (mg_of X T.g (by k_is)) hle
 case hrun =>
  intro s₁ L f₁
  refine cp fun E' => ?_
  refine wpAny_execs_cons (wpAny_If (wpAny_isTrue_Compare1 (az f₁ (d := .i c) m1 fun a s₂ G₂ f₂ le₂ ra => az f₂ (d := .v (.ref bk)) m2 fun b s₃ G₃ f₃ le₃ rb => ?_) (by with_unfolding_all rfl)))
  obtain ⟨u, rfl⟩ := ra
  obtain rfl : b = .ref bk := rb
  refine lN f₃ hbk (fun s₄ f₄ => wpAny_pure ?_) (fun s₄ f₄ => wpAny_pure ?_)
  · erw [if_pos rfl]
    refine aP (wr := [bk]) (s₀ := s) (G₀ := G) ar (cQ f₄ ae (by decide) fun s₅ G₅ sa f₅ na => ?_)
    refine cL (d := .v (.ref sa))  f₅ rfl af fun s₆ f₆ => ?_
    refine aP (wr := [bk]) (s₀ := s) (G₀ := G) ar ?hcall
    refine cj (kn := []) (dF := .g g.get? (.ref 99)) (ds := [.g Gt (.ref (fs 0)), .i c, .v (.ref sa)]) (kds := []) (o := _) (fd := _) f₆ m4 (fun ux ux h => h.1) (fun s' G' f' => f'.E.sub _ _ (f'.leOf (x := "_law_walk") (u := .ref 99) (Gs := g.get?) m4 _ _ h99)) rfl (ab (aa m1) (ab (aa m2) (ab (aa m0) ae))) bl fun s₇ G₇ vs ks f₇ le₇ rv rk => ?_
    refine ct_walk X T hT hp hd hw hw2 6 0 (A := A.deeper _) (sa := sa) (sg := []) hA (by show A.depth + 1 + 6 < _; lia) (by lia) (by lia) (by lia) f₇.E.sub (f₇.leOf (x := "_law_walk") m4) (f₇.leOf (x := "root") m1) (rgv rv) (Held.left (os := [(sa, Kd.l (([] : List Int).map .i))]) f₇.held) (by decide) fun s₈ G₈ u' ef ru => ?_
    have f₈ := f₇.called (os := [(sa, Kd.l (([] : List Int).map .i))]) ef fun b hb ux => hb
    have hsz := cN (par := par) hd hw 6 0
    have hcnt : nuD par d w c = .t [.i (((bG (jt [1, 2, 3, 4, 5] par (fun x => d x - c) w 6 0)).count (-1) : Nat) : Int), .i (6 - (((bG (jt [1, 2, 3, 4, 5] par (fun x => d x - c) w 6 0)).count 1 : Nat) : Int))] := rfl
    obtain ⟨ht0, ht1, ht2⟩ := hsz
    generalize jt [1, 2, 3, 4, 5] par (fun x => d x - c) w 6 0 = t at f₈ ru hcnt ht0 ht1 ht2
    rw [List.nil_append] at f₈
    have hl6 : eF 6 ≤ 100000 := lenN_le 6 (by lia)
    refine cL (d := .t [.i t.1.1, .i t.1.2])  f₈ ru af fun s₉ f₉ => ?_
    have okm : IntMulOk t.1.1 t.1.2 := Nb.ok (ht0.mono (by decide)) (ht1.mono (by decide))
    refine go_ifJ (c := !(decide (t.1.1 = 0) && decide (t.1.2 = 0))) (ρ' := ((("signs":Str), .v (.ref sa)) :: cntT g Gt (fs 0) c bk)) (os' := [(sa, Kd.l ((bG t).map .i)), (bk, aA Challenge.rw_wb0032_01.row.prog w' dom (nuD par d w) fun ux => False)]) f₉ (aj (aa m0) (bp (ab ad (ab ad ae)) (by simp)) (o7 (by show A.units + 3 + 64 < cLine; lia))) (fun sA GA fA hc => ?_) (fun sA GA fA hc => ?_) fun sA GA fA => ?_
    · have hne : ¬ t.1 = (0, 0) := fun q => by rw [q] at hc; simp at hc
      refine c9 (d := .i (if t.1.1 = 0 then 0 else if 0 < t.1.1 * t.1.2 then 1 else -1)) fA (aa m1) (ah (dc (c := t.1.1 == 0) (d := .i 0) (e := .i (if 0 < t.1.1 * t.1.2 then 1 else -1)) (aj (au (k := 0) (d := .i t.1.1) (aa m0) ad (by decide) (by decide) rfl) ad eA) (fun ux => ad) (fun ux => ah (dc (c := decide (t.1.1 * t.1.2 > 0)) (d := .i 1) (e := .i (-1)) (aj (ag (au (k := 0) (d := .i t.1.1) (aa m0) ad (by decide) (by decide) rfl) (au (k := 1) (d := .i t.1.2) (aa m0) ad (by decide) (by decide) rfl) (dw okm)) ad gu) (fun ux => ad) (fun ux => gI ad dT)) ?hcv1)) ?hcv2) ?hz1 fun sB GB fB => ?_
      case hcv1 => by_cases h : 0 < t.1.1 * t.1.2 <;> simp [h]
      case hcv2 => by_cases h : t.1.1 = 0 <;> simp [h]
      case hz1 => erw [List.length_map]; lia
      refine wpAny_execs_nil ⟨rfl, GB, ?_⟩
      have e : bG t = t.2 ++ [if t.1.1 = 0 then 0 else if 0 < t.1.1 * t.1.2 then 1 else -1] := by unfold bG; erw [if_neg hne]
      erw [e, List.map_append]
      exact fB.say eS
    · have he : t.1 = (0, 0) := by
       have : t.1.1 = 0 ∧ t.1.2 = 0 := by simpa using hc
       exact Prod.ext this.1 this.2
      refine wpAny_execs_nil ⟨rfl, GA, ?_⟩
      erw [show bG t = t.2 by unfold bG; erw [if_pos he]]
      exact fA.say eS
    · obtain ⟨GB, fB, leB, _⟩ := fA.freeze (ρ' := ((("signs":Str), .l ((bG t).map .i)) :: cntT g Gt (fs 0) c bk)) na (by
       intro p hp
       rcases List.mem_cons.mp hp with rfl | hp
       · exact .inr ⟨rfl, .head _⟩
       · exact .inl (.tail _ hp))
      refine wpAny_execs_cons (wpAny_Assign_Subscript (dD fB (bp (ab (dB (aa m0) (ab (gI ad dT) ae) kS) (ab (ag ad (dB (aa m0) (ab ad ae) kS) bL) ae)) (by simp)) fun v sC GC fC leC rC => ?_))
      refine az fC (d := .v (.ref bk)) m3 fun ov sD GD fD leD rD => ?_
      obtain rfl : ov = .ref bk := rD
      refine az fD (d := .i c) m2 fun iv sE GE fE leE rE => ?_
      obtain ⟨ui, rfl⟩ := rE
      refine lM fE hdom hc (by erw [hcnt]; exact (rC.mono leD).mono leE) fun sF fF => ?_
      refine wpAny_execs_nil ?_
      refine wpAny_execs_cons (wpAny_Return_some (Subscript_ (az fF (d := .v (.ref bk)) m3 fun ov s₁ G₁ f₁ le₁ r₁ => az f₁ (d := .i c) m2 fun iv s₂ G₂ f₂ le₂ r₂ => ?_)))
      obtain rfl : ov = .ref bk := r₁
      obtain ⟨ui, rfl⟩ := r₂
      refine kba_turn (value' := PySem.Expr.Name (PySem.Str.ofString "_") ⟨0, 0, 0, 0⟩) (fun ux => rfl) (subscriptTail_builtin (jd f₂) slot_dict_getitem.lookup (jp f₂ rfl fun v s₃ f₃ rv => ?_) (by with_unfolding_all rfl) (fun ux => rfl))
      exact hQ _ _ _ ((jk f₃).eff (os := [(bk, aA Challenge.rw_wb0032_01.row.prog w' dom (nuD par d w) fun ux => False)]) (List.Sublist.refl _)) rv
  · erw [if_neg (by decide)]
    refine wpAny_execs_nil ?_
    refine wpAny_execs_cons (wpAny_Return_some (Subscript_ (az f₄ (d := .v (.ref bk)) m2 fun ov s₁ G₁ f₁ le₁ r₁ => az f₁ (d := .i c) m1 fun iv s₂ G₂ f₂ le₂ r₂ => ?_)))
    obtain rfl : ov = .ref bk := r₁
    obtain ⟨ui, rfl⟩ := r₂
    refine kba_turn (value' := PySem.Expr.Name (PySem.Str.ofString "_") ⟨0, 0, 0, 0⟩) (fun ux => rfl) (subscriptTail_builtin (jd f₂) slot_dict_getitem.lookup (jp f₂ rfl fun v s₃ f₃ rv => ?_) (by with_unfolding_all rfl) (fun ux => rfl))
    exact hQ _ _ _ ((jk f₃).eff (os := [(bk, aA Challenge.rw_wb0032_01.row.prog w' dom (nuD par d w) fun ux => False)]) (List.Sublist.refl _)) rv
set_option tactic.hygienic false
section
variable {prog : Program} {w : World} {A : Around} {wr : List Addr} {s₀ s s' : Shared} {G₀ G G' : Mem} {env : Env} {ρ ρ' : List (Str × D)} {os os' : List (Addr × Kd)} {rest : List Stmt}
theorem g8 {s : Shared} {h' : Heap} {G : Mem} {tk : Nat} (hG : In G s.heap) (hk : ∀ b o, s.heap.get? b = some o → h'.get? b = some o) : Kp s G { s with heap := h', toks := tk } G := ⟨⟨h', tk, rfl, hk⟩, fun ux ux e => e, fun b o e => hk _ _ (hG _ _ e), fun ux ux e => .inl e⟩
theorem cl_min {a b : Int} (hh : A.handled = none) : Cl (model prog w) A (.builtin "min") [.i a, .i b] (.i (min a b)) := by
 rintro s G Q E vs hG ⟨v, r, rfl, ⟨t, rfl⟩, v', r', rfl, ⟨t', rfl⟩, rfl⟩ hQ
 refine min_two_ints hh fun h' tk hk => ?_
 by_cases h : b < a
 · erw [if_pos h]; exact hQ _ _ _ (g8 hG hk) ⟨_, by erw [Int.min_eq_right (by lia)]⟩
 · erw [if_neg h]; exact hQ _ _ _ (g8 hG hk) ⟨_, by erw [Int.min_eq_left (by lia)]⟩
theorem cl_sum {ns : List Int} (hh : A.handled = none) : Cl (model prog w) A (.builtin "sum") [.l (ns.map .i)] (.i ns.sum) := by
 rintro s G Q E vs hG ⟨v, r, rfl, rv, rfl⟩ hQ
 obtain ⟨a, its, rfl, hl, hsz, q⟩ := jD hG rv
 have hi := eO q
 obtain ⟨xs, hx⟩ := hi.allInts.items
 have hx : its = intItems xs := by rw [← hx]
 rw [hx] at hl
 refine sum_intListG hh hl fun h' tk t' hk => ?_
 have e1 : ns = xs.toList.map (·.1) := by
  rw [← nums_intItems, ← hx]
  exact hi.numsOf.symm
 have e2 : preSum (numAt xs) xs.size = ns.sum := by
  erw [preSum_eq, List.take_of_length_le (by simp), e1]
 erw [e2]
 exact hQ _ _ _ (g8 hG hk) ⟨_, rfl⟩
theorem nO {G : Mem} {a b : Int} {acc : Array Value} (h : ItemsOf (fun i v => ∃ t, v = .int (a + i * 1) t) acc (b - a).toNat) : RpL G (rng a b) acc.toList := by
 obtain ⟨hs, hv⟩ := h
 have key : ∀ (ds : List D) (vs : List Value), vs.length = ds.length → (∀ (j : Nat) (d : D) (v : Value), ds[j]? = some d → vs[j]? = some v → Rp G d v) → RpL G ds vs := by
  intro ds
  induction ds with
  | nil => intro vs hl _; exact List.eq_nil_of_length_eq_zero hl
  | cons d ds ih =>
    intro vs hl hd
    cases vs with
    | nil => cases hl
    | cons v vs => exact ⟨v, vs, rfl, hd 0 d v rfl rfl, ih vs (by simpa using hl) fun j => hd (j + 1)⟩
 refine key _ _ (by erw [a8]; simpa using hs) fun j d v h1 h2 => ?_
 obtain ⟨t, rfl⟩ := hv j v (by simpa using h2)
 erw [dZ h1, Int.mul_one]
 exact ⟨_, rfl⟩
theorem eN {x y : Str} {p p' q q' : Pos} {ea eb : Expr} {a b : Int} (hh : A.handled = none) (hl : (x, .v (.type "list")) ∈ ρ) (hr : (y, .v (.type "range")) ∈ ρ) (ha : EvL (model prog w) A env ρ [ea, eb] [.i a, .i b])
 (h1 : -(2 ^ 62) ≤ a) (h2 : a < 2 ^ 62) (h3 : -(2 ^ 62) ≤ b) (h4 : b < 2 ^ 62) (hsz : (b - a).toNat ≤ 1000000)
 (hx : (x == ("__debug__" : Str)) = false := by decide) (hk : (env.kindOf x).isSome = true := by rfl) (hy : (y == ("__debug__" : Str)) = false := by decide) (hk2 : (env.kindOf y).isSome = true := by rfl)
 (hs1 : starEach [.Call (.Name y p') [ea, eb] [] q'] env = [(false, eval (.Call (.Name y p') [ea, eb] [] q') env)] := by rfl)
 (hs2 : starEach [ea, eb] env = (false, eval ea env) :: starEach [eb] env := by rfl) (hs3 : (backTo q' (starEach [eb] env)).any (·.1) = false := by rfl) :
 Ev (model prog w) A env ρ (.Call (.Name x p) [.Call (.Name y p') [ea, eb] [] q'] [] q) (.l (rng a b)) := by
 intro s G Q E hE hQ
 refine Call_Name rfl (aa hl hx hk s G _ _ hE fun f s₁ G₁ k₁ r => ?_)
 obtain rfl : f = .type "list" := r
 refine PyProof.Rows.callWith_type1 (spliced_more ?_ hs1) hs1
 refine Call_Name rfl (aa hr hy hk2 s₁ G₁ _ _ (hE.go k₁) fun f s₂ G₂ k₂ r => ?_)
 obtain rfl : f = .type "range" := r
 refine PyProof.Rows.callWith_type1 (ha q' s₂ G₂ _ _ ((hE.go k₁).go k₂) fun us s₃ G₃ k₃ r₃ => ?_) hs2 hs3
 obtain ⟨v, r, rfl, ⟨t, rfl⟩, v', r', rfl, ⟨t', rfl⟩, rfl⟩ := r₃
 refine call_range_2 (spliced_none ?_)
 have e0 : Builtin.Range.rangeSize a b 1 = ((b - a).toNat : Nat) := by erw [rangeSize_one]; split <;> lia
 refine call_list_range hh (IsRange.new ..) (small_one h1 h2 h3 h4) e0 (by lia) fun h' tk acc' c' hk' hd hit => ?_
 have K₄ := aW (tk := tk) (s := s₃) (h' := h') k₃.sub fun b o e => hk' b o (Heap.get?_push_of_some _ e)
 have fr : ∀ {n}, s₃.heap.objs.size ≤ n → s₃.heap.get? n = none := fun h => Heap.get?_none_of_le h
 have fa : s₃.heap.get? (s₃.heap.push { cls := .type "range", data := .fields #[.int a t, .int b t', .int 1 s₃.toks] }).objs.size = none := fr (by erw [Heap.size_push]; lia)
 have K5 := K₄.join fa (ai k₃.sub fa) hd
 exact hQ _ _ _ (((k₁.tr k₂).tr k₃).tr K5) ⟨_, _, _, rfl, a9 _ _ _, nO hit⟩
theorem go_iter {x y : Str} {p p' pos pos' : Pos} {e : Expr} {ds : List D} {Q : Flow → Shared → Prop} {E : Value → Shared → Prop} (hh : A.handled = none) (f : Fm wr s₀ G₀ env ρ os s G) (hi : (y, .v (.builtin "iter")) ∈ ρ) (he : Ev (model prog w) A env ρ e (.l ds)) (hk : Knd env x) (hs : ∀ it, eg x (.v (.ref it)) ρ ((x, .v (.ref it)) :: ρ))
 (h : ∀ s' G' it l, Fm wr s₀ G₀ env ((x, .v (.ref it)) :: ρ) ((it, itK l 0) :: os) s' G' → it ∉ wr → Rp G' (.l ds) (.ref l) → wpAny (model prog w) A (execs rest env) Q E s')
 (hy : (y == ("__debug__" : Str)) = false := by decide) (hk2 : (env.kindOf y).isSome = true := by rfl) (hs1 : starEach [e] env = [(false, eval e env)] := by rfl)
 (hsw : swapsWith (.Call (.Name y p) [e] [] pos) (some (.Name x p')) pos'.line env = pure false := by rfl) : wpAny (model prog w) A (execs (.Assign [.Name x p'] (.Call (.Name y p) [e] [] pos) pos' :: rest) env) Q E s := by
 refine aP (wr := wr) (s₀ := s₀) (G₀ := G₀) hk (Call_Name rfl (az f hi (fun v s₁ G₁ f₁ le₁ r => ?_) hy hk2)) hsw
 obtain rfl : v = .builtin "iter" := r
 refine callWith_method1 (spliced_more (dD f₁ he fun v s₂ G₂ f₂ le₂ r₂ => spliced_none ?_) hs1) hs1
 obtain ⟨l, its, k, rfl, g, q⟩ := r₂
 refine call_function_entry (by decide +kernel) (by decide +kernel) kdk_entry_iter (kdk_args_iter _) ?_
 unfold Builtin.«iter»
 refine wpAny_bind (m := someArgs "iter" 1 2 _) (wpAny_of_eq (a := [Value.ref l]) (by first | rfl | kernel_rfl!) ?_)
 show wpAny _ _ (pyIter (.ref l) >>= _) _ _ _
 refine wpAny_bind (wpAny_pyIter_list ⟨_, f₂.E.sub _ _ g, rfl, _, rfl⟩ ?_)
 obtain ⟨f₃, nw⟩ := f₂.new (tk := s₂.toks) (h' := s₂.heap.push { cls := .type "list_iterator", data := .fields #[.ref l, .int 0 0] }) (a := s₂.heap.objs.size) (k := itK l 0) (fun b o e => Heap.get?_push_of_some _ e) (aq _) (Heap.get?_push_size _ rfl) ⟨rfl, rfl⟩
 exact wpAny_pure ⟨_, rfl, G₂, _, _, .v (.ref s₂.heap.objs.size), f₃, rfl, _, hs _, fun s₄ f₄ => h s₄ G₂ _ l f₄ nw ⟨l, its, k, rfl, g, q⟩⟩
end
set_option tactic.hygienic false
section
variable {prog : Program} {w : World} {A : Around} {env : Env} {ρ ρ' : List (Str × D)}
noncomputable def Emt (M : Model) (A : Around) (env : Env) (Da : Addr) (ρ : List (Str × D)) (em : Sem Fin) (c : Code) (fs : List D) : Prop :=
 ∀ (s : Shared) (G : Mem) (ys : Array Value) (Q : Unit → Shared → Prop) (E : Value → Shared → Prop), En s.heap G env ρ → OwnL s.heap G env → s.heap.PlainList Da ys → G Da = none → ys.size + fs.length ≤ 1000000 →
   (∀ s' G' zs, KpB [env.locals, Da] s G s' G' → OwnL s'.heap G' env → G' Da = none → s'.heap.PlainList Da (ys ++ zs) → RpL G' fs zs.toList → Q () s') → wpAny M A em (fun fin s' => fin = .again c ∧ Q () s') E s
theorem eE {wr : List Addr} {s s' : Shared} {G G' : Mem} (k : KpB wr s G s' G') {b : Addr} {o : Obj} (e : s.heap.get? b = some o) (h : G b = none) : G' b = none := by
 cases q : G' b with
 | none => rfl
 | some o' => rcases k.new b o' q with z | z
              · rw [h] at z; cases z
              · rw [e] at z; cases z
theorem OwnL.turn {wr : List Addr} {s s' : Shared} {G G' : Mem} (own : OwnL s.heap G env) (k : KpB wr s G s' G') (h : env.locals ∉ wr) : OwnL s'.heap G' env := by
 obtain ⟨m, n⟩ := own.ns
 obtain ⟨o, es, ep, e, r⟩ := id n
 exact ⟨⟨m, o, es, ep, k.hp _ o h e, r⟩, eE k e own.gn, own.gl, own.bu, own.fn⟩
theorem qi {elt target : Expr} {gens : List Comprehension} {scope : Scope} {pos ip : Pos} {dep : Nat} {em : Sem Fin} {cenv : Env} {I Da : Addr} {xs : List D} {fl : D → List D} {ρc : List (Str × D)} {ρi : D → List (Str × D)} {R : Result → Shared → Prop} {s : Shared} {G : Mem} {wr : List Addr} {St : Nat → Heap → Prop} {ys : Array Value}
 (heq : compTurn (.ListComp elt gens scope pos) dep (.ref I) (.ref Da) cenv = (standAt ip >>= fun ux => pyNext (.ref I) >>= fun r => match r with
  | none => pure (.done .next)
  | some v => letOwnedTupleGo target (.ref I) v >>= fun ux => assign target cenv v >>= fun ux => em))
 (has : ∀ d, d ∈ xs → As (model prog w) A target d cenv ρc (ρi d)) (he : ∀ d, d ∈ xs → Emt (model prog w) A cenv Da (ρi d) em (.compLoop (.ListComp elt gens scope pos) dep (.ref I) (.ref Da) cenv) (fl d))
 (hsz : ys.size + (xs.flatMap fl).length ≤ 1000000) (hρ : ∀ s' G', KpB (cenv.locals :: Da :: wr) s G s' G' → En s'.heap G' cenv ρc) (hin : In G s.heap)
 (own : OwnL s.heap G cenv) (acc : s.heap.PlainList Da ys) (gD : G Da = none) (hD : Da ≠ cenv.locals) (W : Wk prog w A target G I wr xs St) (hst : St 0 s.heap) (hw : ∀ b ∈ wr, G b = none) (hwL : cenv.locals ∉ wr) (hwD : Da ∉ wr)
 (hR : ∀ s' G' zs, KpB (cenv.locals :: Da :: wr) s G s' G' → OwnL s'.heap G' cenv → G' Da = none → s'.heap.PlainList Da (ys ++ zs) → RpL G' (xs.flatMap fl) zs.toList → R (.ok .next) s') :
 codeAny (model prog w) A (.compLoop (.ListComp elt gens scope pos) dep (.ref I) (.ref Da) cenv) R s := by
 have all0 : ∀ {s' : Shared} {G' : Mem}, OwnL s'.heap G' cenv → G' Da = none → (∀ b ∈ wr, G' b = none) → ∀ b ∈ cenv.locals :: Da :: wr, G' b = none := fun {s' G'} o g gw b hb => by
  rcases List.mem_cons.mp hb with q | hb
  · erw [q]; exact o.gn
  · rcases List.mem_cons.mp hb with q | hb
    · erw [q]; exact g
    · exact gw b hb
 have hin0 : KpB (cenv.locals :: Da :: wr) s G s G := KpB.of (Kp.rf hin)
 refine codeAny_loop rfl (fun k s' => ∃ i G' zs, KpB (cenv.locals :: Da :: wr) s G s' G' ∧ (∀ b ∈ wr, G' b = none) ∧ G' Da = none ∧ St i s'.heap ∧ s'.heap.PlainList Da (ys ++ zs) ∧ RpL G' ((xs.take i).flatMap fl) zs.toList ∧ OwnL s'.heap G' cenv ∧ i ≤ xs.length ∧ k = xs.length + 1 - i) ?_ (xs.length + 1)
  ⟨0, G, #[], hin0, hw, gD, hst, by erw [Array.append_empty]; exact acc, by simp [RpL], own, Nat.zero_le _, rfl⟩
 rintro k s' ⟨i, G', zs, K, gw, gD', st, ac, rz, own', hi, rfl⟩
 show wpAny _ A ((compTurn (.ListComp elt gens scope pos) dep (.ref I) (.ref Da) cenv).onRaise (fun x => do noteFrame x cenv; theTreesLotGoes x)) _ _ s'
 refine wpAny_noted ?_
 erw [heq]
 refine wpAny_bind (wpAny_standAt (wpAny_bind ?_))
 by_cases hlt : i < xs.length
 · have hd : xs[i]? = some xs[i] := List.getElem?_eq_getElem hlt
   have hmem : xs[i] ∈ xs := List.getElem_mem hlt
   generalize xs[i] = d at hd hmem
   refine wpAny_mono (W.item i d s' G' (fun v s₁' => wpAny (model prog w) A (assign target cenv v) (fun ux s₂ => wpAny (model prog w) A em (fun fin s₃ => fin = .again (.compLoop (.ListComp elt gens scope pos) dep (.ref I) (.ref Da) cenv) ∧ ∃ m, m < xs.length + 1 - i ∧ ∃ i G' zs, KpB (cenv.locals :: Da :: wr) s G s₃ G' ∧ (∀ b ∈ wr, G' b = none) ∧ G' Da = none ∧ St i s₃.heap ∧ s₃.heap.PlainList Da (ys ++ zs) ∧ RpL G' ((xs.take i).flatMap fl) zs.toList ∧ OwnL s₃.heap G' cenv ∧ i ≤ xs.length ∧ m = xs.length + 1 - i)
    (notedBy (model prog w) A cenv fun e s' => R (.error e) s') s₂) (notedBy (model prog w) A cenv fun e s' => R (.error e) s') s₁') (notedBy (model prog w) A cenv fun e s' => R (.error e) s') hd K.le K.sub gw st ?_) (fun r s₁ h₁ => ?_) fun ux ux h => h
   · intro v s₁ G₁ k₁ gw₁ rv st₁
     have own₁ := own'.turn k₁ hwL
     have gD₁ : G₁ Da = none := by obtain ⟨n, e⟩ := ac; exact eE k₁ e gD'
     have ac₁ := ac.at fun o e => k₁.hp _ o hwD e
     have K₁ := K.tr (k₁.mono fun b hb => .tail _ (.tail _ hb)) (all0 own₁ gD₁ gw₁)
     refine has d hmem s₁ G₁ v _ _ (hρ _ _ K₁) own₁ rv fun s₂ k₂ hE₂ own₂ => ?_
     have K₂ := K₁.tr (k₂.mono fun b hb => by erw [List.mem_singleton.mp hb]; exact .head _) (all0 own₁ gD₁ gw₁)
     have ac₂ := ac₁.at fun o e => k₂.hp _ o (fun q => hD (List.mem_singleton.mp q)) e
     have st₂ := W.frame _ _ _ st₁ fun b hb o e => k₂.hp b o (fun m => hwL (by rw [← List.mem_singleton.mp m]; exact hb)) e
     have tk : (xs.take (i + 1)).flatMap fl = (xs.take i).flatMap fl ++ fl d := by
      erw [List.take_add_one, hd, Option.toList_some, List.flatMap_append]; simp
     have hl : ((xs.take (i + 1)).flatMap fl).length ≤ (xs.flatMap fl).length := by
      have := congrArg (fun l => (List.flatMap fl l).length) (List.take_append_drop (i + 1) xs)
      simp only [List.flatMap_append, List.length_append] at this
      lia
     have hz : zs.size = ((xs.take i).flatMap fl).length := by have := rz.length; simpa using this
     refine he d hmem s₂ G₁ (ys ++ zs) (fun ux s₃ => ∃ m, m < xs.length + 1 - i ∧ ∃ i G' zs, KpB (cenv.locals :: Da :: wr) s G s₃ G' ∧ (∀ b ∈ wr, G' b = none) ∧ G' Da = none ∧ St i s₃.heap ∧ s₃.heap.PlainList Da (ys ++ zs) ∧ RpL G' ((xs.take i).flatMap fl) zs.toList ∧ OwnL s₃.heap G' cenv ∧ i ≤ xs.length ∧ m = xs.length + 1 - i) _ hE₂ own₂ ac₂ gD₁ (by erw [Array.size_append, hz]; rw [tk, List.length_append] at hl; lia) fun s₃ G₃ us k₃ own₃ gD₃ ac₃ ru => ?_
     have gw₃ : ∀ b ∈ wr, G₃ b = none := fun b hb => by
      obtain ⟨o, e⟩ := W.live _ _ st₂ b hb
      exact eE k₃ e (gw₁ b hb)
     refine ⟨xs.length + 1 - (i + 1), by lia, i + 1, G₃, zs ++ us, K₂.tr (k₃.mono fun b hb => ?_) (all0 own₃ gD₃ gw₃), gw₃, gD₃, W.frame _ _ _ st₂ fun b hb o e => k₃.hp b o (fun m => ?_) e, by rw [← Array.append_assoc]; exact ac₃, ?_, own₃, hlt, rfl⟩
     · rcases List.mem_cons.mp hb with q | hb
       · erw [q]; exact .head _
       · erw [List.mem_singleton.mp hb]; exact .tail _ (.head _)
     · rcases List.mem_cons.mp m with q | m
       · exact hwL (q ▸ hb)
       · exact hwD ((List.mem_singleton.mp m) ▸ hb)
     · erw [tk, Array.toList_append]
       exact RpL.append (rz.mono fun b o e => k₃.le b o (k₁.le b o e)) ru
   · cases r with
     | none => exact h₁.elim
     | some v => exact wpAny_bind (wpAny_mono h₁ (fun ux s₂ h₂ => wpAny_bind (wpAny_mono h₂ (fun ux s₃ h₃ => wpAny_mono h₃ (fun fin s₄ h₄ => by obtain ⟨rfl, h₅⟩ := h₄; exact ⟨rfl, h₅⟩) fun ux ux h => h) fun ux ux h => h)) fun ux ux h => h)
 · obtain rfl : i = xs.length := by lia
   refine W.done s' G' _ _ K.le K.sub gw st fun s₁ k₁ => wpAny_pure ?_
   rw [List.take_length] at rz
   exact hR s₁ G' zs (K.tr (k₁.mono fun b hb => .tail _ (.tail _ hb)) (all0 own' gD' gw)) (own'.turn k₁ hwL) gD' (ac.at fun o e => k₁.hp _ o hwD e) rz
end
set_option tactic.hygienic false
section
variable {prog : Program} {w : World} {A : Around} {env : Env} {ρ ρ' : List (Str × D)}
theorem mB {elt : Expr} {Da : Addr} {d : D} {c : Code} (hD : Da ≠ env.locals) (he : Ev (model prog w) A env ρ elt d) : Emt (model prog w) A env Da ρ ((eval elt env >>= fun x => call (.builtin "list.append") [.ref Da, x] >>= fun ux => pure ()) >>= fun ux => again c) c [d] := by
 intro s G ys Q E hE own acc gD hsz hQ
 refine wpAny_bind (wpAny_bind (he s G _ _ hE fun x s₁ G₁ k₁ rx => wpAny_bind ?_))
 have acc₁ := acc.at fun o e => k₁.hp _ o e
 have gD₁ : G₁ Da = none := by obtain ⟨n, e⟩ := acc; exact bw k₁ e gD
 refine wpAny_list_append_plain (hsz := by erw [sizeLine_eq]; rw [List.length_singleton] at hsz; lia) acc₁ fun h₅ acc₅ hs₅ => wpAny_pure (wpAny_pure ⟨rfl, ?_⟩)
 have k₅ : KpB [Da] s₁ G₁ { s₁ with heap := h₅ } G₁ := KpB.same (t := s₁.toks) k₁.sub hs₅ gD₁
 have own₅ := (own.turn (wr := []) (KpB.of k₁) (by simp)).turn k₅ (fun q => hD (List.mem_singleton.mp q).symm)
 refine hQ _ G₁ #[x] ((KpB.of k₁).tr (k₅.mono fun b hb => by erw [List.mem_singleton.mp hb]; exact .tail _ (.head _)) fun b hb => ?_) own₅ gD₁ (by rw [Array.push_eq_append] at acc₅; exact acc₅) (RpL.one rx)
 rcases List.mem_cons.mp hb with q | hb
 · erw [q]; exact own₅.gn
 · erw [List.mem_singleton.mp hb]; exact gD₁
theorem start1 {R : Result → Shared → Prop} {s : Shared} {elt t1 t2 it1 it2 : Expr} {scope : Scope} {pos : Pos} {it acc : Value}
 (h0 : codeAny (model prog w) A (.compLoop (.ListComp elt [⟨t1, it1, [], 0⟩, ⟨t2, it2, [], 0⟩] scope pos) 1 it acc env) R s)
 (h : wpAny (model prog w) A (pyIter it) (fun it' s' => codeAny (model prog w) A (.compLoop (.ListComp elt [⟨t1, it1, [], 0⟩, ⟨t2, it2, [], 0⟩] scope pos) 1 it' acc env) R s') (notedBy (model prog w) A env fun x s' => R (.error x) s') s) :
 codeAny (model prog w) A (.compStart (.ListComp elt [⟨t1, it1, [], 0⟩, ⟨t2, it2, [], 0⟩] scope pos) 1 it acc env) R s := by
 refine codeAny_of_tree ?_
 show wpAny _ _ ((compStart (.ListComp elt [⟨t1, it1, [], 0⟩, ⟨t2, it2, [], 0⟩] scope pos) 1 it acc env).onRaise (fun x => do noteFrame x env; standAt theWindowsPlace)) _ _ s
 refine wpAny_notedAt ?_
 unfold compStart
 show wpAny _ _ (ask >>= _) _ _ s
 refine wpAny_bind (wpAny_askSetting (wpAny_ite ?_))
 split
 · first
    | exact wpAny_bind (wpAny_pure (wpAny_pure (And.intro rfl h0)))
    | exact wpAny_pure (And.intro rfl h0)
 · refine wpAny_bind (wpAny_rule ?_)
   show wpAny _ _ (standAt it2.pos >>= _) _ _ s
   exact wpAny_bind (wpAny_standAt (wpAny_bind (wpAny_mono h (fun it' s' h' => wpAny_pure (And.intro rfl h')) fun ux ux x => x)))
theorem qz {L Da : Addr} {wr : List Addr} {s s' s'' : Shared} {G G' G'' : Mem} (k : Kp s G s' G') (x : KpB (L :: Da :: wr) s' G' s'' G'') (fr : ∀ b ∈ wr, s.heap.get? b = none) : KpB [L, Da] s G s'' G'' := by
 obtain ⟨h, t, rfl, q⟩ := k.k
 obtain ⟨h', t', rfl, q'⟩ := x.k
 refine ⟨⟨h', t', rfl, fun b o hb e => q' b o (fun m => ?_) (q b o e)⟩, fun b o e => x.le b o (k.le b o e), x.sub, fun b o e => ?_⟩
 · rcases List.mem_cons.mp m with y | m
   · exact hb (by erw [y]; exact .head _)
   · rcases List.mem_cons.mp m with y | m
     · exact hb (by erw [y]; exact .tail _ (.head _))
     · rw [fr b m] at e; cases e
 · rcases x.new b o e with y | y
   · exact k.new b o y
   · right
     cases z : s.heap.get? b with
     | none => rfl
     | some o' => rw [q b o' z] at y; cases y
theorem iX {h : Heap} {a b : Addr} {m : Str → Option Value} {ys : Array Value} (x : h.Ns a m) (y : h.PlainList b ys) : b ≠ a := fun q => by
 obtain ⟨o, es, ep, e, d, _⟩ := x
 obtain ⟨n, e'⟩ := y
 rw [q, e] at e'
 cases e'
 cases d
theorem dG {h : Heap} {a b : Addr} {m : Str → Option Value} (x : h.Ns a m) (y : h.get? b = none) : b ≠ a := fun q => by
 obtain ⟨o, es, ep, e, d, _⟩ := x
 rw [q, e] at y
 cases y
theorem pZ {elt t1 t2 it1 it2 : Expr} {scope : Scope} {pos : Pos} {xs : List D} {cl : List (Str × Addr)} (ys : D → List D) (f : D → D) (ρc : List (Str × D)) (ρi ρ2 : D → List (Str × D))
 (hit : It prog w A t1 env ρ it1 xs) (hclos : closureFor scope env = pure cl) (hcell : ∀ y ∈ scope.names, y.2 ≠ .cell) (hkind : scope.kind = .function)
 (hnames : ∀ y ∈ scope.names, y.2 = .local → scope.names.lookup y.1 = some .local)
 (hcap : ∀ C h G, En h G env ρ → En h G (compEnvC scope cl C env) ρc)
 (has : ∀ C d, d ∈ xs → As (model prog w) A t1 d (compEnvC scope cl C env) ρc (ρi d))
 (hit2 : ∀ C d, d ∈ xs → It prog w A t2 (compEnvC scope cl C env) (ρi d) it2 (ys d))
 (has2 : ∀ C d e, d ∈ xs → e ∈ ys d → As (model prog w) A t2 e (compEnvC scope cl C env) [] (ρ2 e))
 (he : ∀ C d e, d ∈ xs → e ∈ ys d → Ev (model prog w) A (compEnvC scope cl C env) (ρ2 e) elt (f e))
 (hsz : (xs.flatMap fun d => (ys d).map f).length ≤ 1000000) (hs : ∀ x, foldedSetIterable it1 env x = pure x := by intro _; rfl) (hs2 : ∀ env x, foldedSetIterable it2 env x = pure x := by intro _ _; rfl) :
 Ev (model prog w) A env ρ (.ListComp elt [⟨t1, it1, [], 0⟩, ⟨t2, it2, [], 0⟩] scope pos) (.l (xs.flatMap fun d => (ys d).map f)) := by
 intro s G Q E hE hQ
 erw [eval_ListComp]
 refine wpAny_comprehension_free (use := none) rfl hs hclos hkind hnames (hit s G _ _ hE fun I₀ wr St s₂ G₂ k₂ hwr W hst => ?_)
 refine wpAny_newObj_type (wpAny_newFunctionEnv hcell (by intro y hy; simp at hy) (fun h₁ hns₁ hsb₁ => ?_) hkind) (by size_fits)
 dsimp only at hns₁ hsb₁ ⊢
 generalize hH2 : s₂.heap.push { cls := .type "list", dict := none, data := .seq ([] : List Value).toArray } = H2 at hns₁ hsb₁ ⊢
 generalize hD : s₂.heap.objs.size = Da at *
 generalize hC : H2.objs.size = C at *
 have hCD : Da ≠ C := by rw [← hD, ← hC, ← hH2, Heap.size_push]; lia
 have fD : s₂.heap.get? Da = none := by rw [← hD]; exact aq _
 have fC : s₂.heap.get? C = none := Heap.get?_none_of_le (by rw [← hC, ← hH2, Heap.size_push]; lia)
 have old : ∀ b o, s₂.heap.get? b = some o → h₁.get? b = some o := fun b o e => by
  refine hsb₁.extBut b o (fun q => by rw [q, fC] at e; cases e) (Heap.get?_push_of_some _ ?_)
  rw [← hH2]; exact Heap.get?_push_of_some _ e
 have fs0 : ∀ {b}, s₂.heap.get? b = none → s.heap.get? b = none := fun {b} e => by
  cases z : s.heap.get? b with
  | none => rfl
  | some o => rw [k₂.hp b o z] at e; cases e
 have acc₁ : h₁.PlainList Da #[] := ⟨0, hsb₁.extBut _ _ hCD (Heap.get?_push_of_some _ (by rw [← hH2, ← hD]; exact Heap.get?_push_size _ rfl))⟩
 have K₁ : Kp s G { s₂ with heap := h₁, toks := s₂.toks + ([] : List (Str × Value)).length } G₂ := k₂.tr ⟨⟨h₁, _, rfl, old⟩, fun ux ux e => e, fun b o e => old b o (k₂.sub b o e), fun ux ux e => .inl e⟩
 have gD : G₂ Da = none := ai k₂.sub fD
 have gC : G₂ C = none := ai k₂.sub fC
 obtain ⟨mg, hg⟩ := hE.gl
 obtain ⟨mb, hb⟩ := hE.bu
 have own₁ : OwnL h₁ G₂ (compEnvC scope cl C env) := ⟨⟨_, hns₁⟩, gC, dG hg (fs0 fC), dG hb (fs0 fC), by simp [compEnvC, relabel, hkind]⟩
 have fr : ∀ b ∈ (compEnvC scope cl C env).locals :: Da :: wr, s.heap.get? b = none := fun b hb => by
  rcases List.mem_cons.mp hb with q | hb
  · erw [q]; exact fs0 fC
  · rcases List.mem_cons.mp hb with q | hb
    · erw [q]; exact fs0 fD
    · exact (hwr b hb).1
 have lv : ∀ b ∈ wr, ∃ o, s₂.heap.get? b = some o := W.live _ _ hst
 have loop : codeAny (model prog w) A (.compLoop (.ListComp elt [⟨t1, it1, [], 0⟩, ⟨t2, it2, [], 0⟩] scope pos) 0 (.ref I₀) (.ref Da) (compEnvC scope cl C env)) (compPost (model prog w) A E none Q (.ref Da) C)
  { s₂ with heap := h₁, toks := s₂.toks + ([] : List (Str × Value)).length } := by
  refine qi (target := t1) (ip := it1.pos) (ys := #[]) (fl := fun d => (ys d).map f) (ρc := ρc) (ρi := ρi)
   (em := eval it2 (compEnvC scope cl C env) >>= fun x => standAt it2.pos >>= fun ux => foldedSetIterable it2 (compEnvC scope cl C env) x >>= fun x => holding [x] (pyIter x) >>= fun i2 => runOwn (.compStart (.ListComp elt [⟨t1, it1, [], 0⟩, ⟨t2, it2, [], 0⟩] scope pos) 1 i2 (.ref Da) (compEnvC scope cl C env)) (compEnvC scope cl C env) >>= fun ux => again (.compLoop (.ListComp elt [⟨t1, it1, [], 0⟩, ⟨t2, it2, [], 0⟩] scope pos) 0 (.ref I₀) (.ref Da) (compEnvC scope cl C env)))
   (by rfl) (has C) ?he (by simpa using hsz) (fun s' G' K => hcap C _ _ (hE.go (KpB.kp K₁ K fr))) K₁.sub own₁ acc₁ gD hCD W (W.frame _ _ _ hst fun b ux o e => old b o e) (fun b hb => (hwr b hb).2) (fun m => by obtain ⟨o, e⟩ := lv _ m; rw [show (compEnvC scope cl C env).locals = C from rfl, fC] at e; cases e) (fun m => by obtain ⟨o, e⟩ := lv _ m; rw [fD] at e; cases e) ?hR
  case hR =>
   intro s' G' zs K own' gD' acc' rz
   obtain ⟨m, hm⟩ := own'.ns
   rw [Array.empty_append] at acc'
   obtain ⟨n, eD⟩ := acc'
   refine ⟨m, hm, fun h' hs' => ?_⟩
   have kC : KpB [C] s' G' { s' with heap := h' } G' := KpB.same (t := s'.toks) K.sub hs' own'.gn
   have K₂ : Kp s G { s' with heap := h' } G' := KpB.kp (KpB.kp K₁ K fr) kC fun b hb => by erw [List.mem_singleton.mp hb]; exact fs0 fC
   have eD' : h'.get? Da = some { cls := .type "list", data := .seq zs n } := hs'.extBut _ _ hCD eD
   exact hQ _ _ _ (K₂.join (fs0 fD) gD' eD') ⟨Da, zs, n, rfl, a9 _ _ _, RpL.mono (ev gD') rz⟩
  case he =>
   intro d hd s G as Q E hE own acc gD hsz hQ
   refine wpAny_bind (wpAny_mono (hit2 C d hd s G (fun i2 s₂ => wpAny (model prog w) A (runOwn (.compStart (.ListComp elt [⟨t1, it1, [], 0⟩, ⟨t2, it2, [], 0⟩] scope pos) 1 i2 (.ref Da) (compEnvC scope cl C env)) (compEnvC scope cl C env) >>= fun ux => again (.compLoop (.ListComp elt [⟨t1, it1, [], 0⟩, ⟨t2, it2, [], 0⟩] scope pos) 0 (.ref I₀) (.ref Da) (compEnvC scope cl C env))) (fun fin s' => fin = .again (.compLoop (.ListComp elt [⟨t1, it1, [], 0⟩, ⟨t2, it2, [], 0⟩] scope pos) 0 (.ref I₀) (.ref Da) (compEnvC scope cl C env)) ∧ Q () s') E s₂) E hE fun I wr St s₁ G₁ k₁ hwr W hst => ?_) (fun x s₁ h₁ => wpAny_bind (wpAny_standAt (wpAny_bind (wpAny_of_eq (hs2 _ x) (wpAny_bind (wpAny_holding (wpAny_mono h₁ (fun i2 s₂ h₂ => h₂) fun ux ux h => h))))))) fun ux ux h => h)
   refine wpAny_bind (wpAny_runOwn (h := none) ?_)
   erw [Around.mark_none]
   refine codeAny_mono (R := fun r s' => match r with | .ok f => Q () s' | .error e => cameBackBy (model prog w) A (compEnvC scope cl C env) E e s') ?_ (fun r s' h => by cases r with | ok f => exact wpAny_pure ⟨rfl, h⟩ | error e => exact h)
   obtain ⟨mg, hg⟩ := hE.gl
   obtain ⟨mb, hb⟩ := hE.bu
   have lv : ∀ b ∈ wr, ∃ o, s₁.heap.get? b = some o := W.live _ _ hst
   have gD₁ : G₁ Da = none := by obtain ⟨n, e⟩ := acc; exact bw k₁ e gD
   obtain ⟨mL, nL⟩ := own.ns
   have loop : codeAny (model prog w) A (.compLoop (.ListComp elt [⟨t1, it1, [], 0⟩, ⟨t2, it2, [], 0⟩] scope pos) 1 (.ref I) (.ref Da) (compEnvC scope cl C env)) (fun r s' => match r with | .ok f => Q () s' | .error e => cameBackBy (model prog w) A (compEnvC scope cl C env) E e s') s₁ := by
    refine qi (target := t2) (ip := it2.pos) (ys := as) (fl := fun e => [f e]) (ρc := []) (ρi := ρ2) (em := (eval elt (compEnvC scope cl C env) >>= fun x => call (.builtin "list.append") [.ref Da, x] >>= fun ux => pure ()) >>= fun ux => again (.compLoop (.ListComp elt [⟨t1, it1, [], 0⟩, ⟨t2, it2, [], 0⟩] scope pos) 1 (.ref I) (.ref Da) (compEnvC scope cl C env)))
     (by rfl) (fun e he => has2 C d e hd he) (fun e h => mB hCD (he C d e hd h)) (by rw [← List.map_eq_flatMap]; exact hsz) (fun s' G' K => ⟨own.fn, ⟨mg, (hg.keeps k₁.hp).at' fun o e => K.hp _ o (fun m => ?_) e⟩, ⟨mb, (hb.keeps k₁.hp).at' fun o e => K.hp _ o (fun m => ?_) e⟩, K.sub, fun p hp => nomatch hp⟩) k₁.sub (own.turn (wr := []) (KpB.of k₁) (by simp)) (acc.at fun o e => k₁.hp _ o e) gD₁ hCD W hst (fun b hb => (hwr b hb).2) (fun m => ?_) (fun m => ?_) ?_
    · rcases List.mem_cons.mp m with q | m
      · exact own.gl q.symm
      · rcases List.mem_cons.mp m with q | m
        · exact iX hg acc q.symm
        · exact dG hg (hwr _ m).1 rfl
    · rcases List.mem_cons.mp m with q | m
      · exact own.bu q.symm
      · rcases List.mem_cons.mp m with q | m
        · exact iX hb acc q.symm
        · exact dG hb (hwr _ m).1 rfl
    · exact dG nL (hwr _ m).1 rfl
    · obtain ⟨n, e⟩ := acc
      rw [(hwr _ m).1] at e; cases e
    · intro s' G' zs K own' gD' acc' rz
      refine (hQ s' G' zs (qz k₁ K fun b hb => (hwr b hb).1) own' gD' acc' ?_)
      rw [← List.map_eq_flatMap] at rz
      exact rz
   exact start1 loop (W.self 0 s₁ G₁ _ _ (fun ux ux e => e) k₁.sub hst loop)
 exact codeAny_compStart_list loop (W.self 0 _ G₂ _ _ (fun ux ux e => e) K₁.sub (W.frame _ _ _ hst fun b ux o e => old b o e) loop)
end
set_option tactic.hygienic false
noncomputable def qx (tk : Tok) : Obj := { cls := .type "tuple", data := .seq #[.str ("lo must be non-negative":Str) tk] }
theorem mad_of {h h' : Heap} {e : Addr} {tk : Tok} (x : Heap.MadeExc h h' e "ValueError" [.str ("lo must be non-negative":Str) tk]) : ∃ t, ∀ Ls, Mad Ls h e t (qx tk) "ValueError" h' := by
 obtain ⟨t, he, ht, ho⟩ := x.there
 refine ⟨t, fun Ls => ⟨fun b o ux q => x.keeps b o q, fun b o q => ⟨o.slots, x.keeps b o q⟩, x.new, ⟨fun q => ?_, ht, ho⟩, ⟨_, _, he, rfl, rfl, rfl, rfl⟩⟩⟩
 rw [q, he] at ho
 exact absurd (Value.type.inj (congrArg Obj.cls (Option.some.inj ho))) (by decide)
section
variable {prog : Program} {w : World} {A : Around} {wr : List Addr} {s₀ s s' : Shared} {G₀ G G' : Mem} {env : Env} {ρ ρ' : List (Str × D)} {os os' : List (Addr × Kd)} {rest : List Stmt} {Q : Flow → Shared → Prop} {E : Value → Shared → Prop}
theorem ky {p1 p2 p3 p4 p5 p6 p7 p8 : Pos} {k1 k2 : Nat} (hh : A.handled = none) (f : Fm wr s₀ G₀ env ρ os s G) (hlo : (("lo":Str), .i (-1)) ∈ ρ) (hve : (("ValueError":Str), .v (.type "ValueError")) ∈ ρ) (hk1 : (env.kindOf ("lo":Str)).isSome = true) (hk2 : (env.kindOf ("ValueError":Str)).isSome = true)
 (hE : ∀ s₁ G₁ h' e t tk, Fm wr s₀ G₀ env ρ os s₁ G₁ → (∀ Ls, Mad Ls s₁.heap e t (qx tk) "ValueError" h') → E (.ref e) { s₁ with heap := h' }) :
 wpAny (model prog w) A (execs (.If (.Compare (.Name ("lo":Str) p1) [.Lt] [.Constant (.int 0) k1 p2] p3) [.Raise (some (.Call (.Name ("ValueError":Str) p4) [.Constant (.str ("lo must be non-negative":Str)) k2 p5] [] p6)) none p7] [] p8 :: rest) env) Q E s := by
 refine wpAny_execs_cons (wpAny_If ((aj (aa hlo (by decide) hk1) ad bI) s G _ _ f.E fun s₁ G₁ k₁ => ?_))
 erw [if_pos (by decide)]
 refine wpAny_execs_cons (Raise_madeB PySem.F.excCall_ValueError PySem.F.excRaise_ValueError hh ((aa hve (by decide) hk2) s₁ G₁ _ _ (f.E.go k₁) fun v s₂ G₂ k₂ r₂ => ⟨r₂, (ab aT ae) p6 s₂ G₂ _ _ ((f.E.go k₁).go k₂) fun vs s₃ G₃ k₃ r₃ => ?_⟩) (by rfl) (by rfl))
 obtain ⟨v, _, rfl, ⟨tk, rfl⟩, rfl⟩ := r₃
 refine ⟨by erw [sizeLine_eq]; exact Nat.le_of_ble_eq_true rfl, fun h' e hx => ?_⟩
 obtain ⟨t, m⟩ := mad_of hx
 exact hE s₃ G₃ h' e t tk (f.go ((k₁.tr k₂).tr k₃)) m
end
set_option maxRecDepth 100000 in
set_option maxHeartbeats 4000000 in
theorem ct_negr {w : World} {A : Around} {g : Heap} {p : Program} {loose : List Str} {mean : ExcName → Option Value} {mg mb : Str → Option Value} (X : (hd.heap_39 w.params).In g) (T : Top p loose mean mg mb g) (hA : A.handled = none) (hroom : A.depth < recursionLimit)
 {s : Shared} {G : Mem} {Q E : Value → Shared → Prop} {vs ks : List Value} {xs : List D} {fa : Addr} {outer : List Env} (hfr : A.frames = some outer) (hst : ∀ en ∈ outer, en.scope.kind ≠ .module ∧ ∃ L o, en.frame = some L ∧ s.heap.get? L = some o ∧ ∀ vs, o.data ≠ .fields vs)
 (hin : In G s.heap) (hle : Le g.get? G) (hvs : RpL G [.l xs, .i 1, .i (-1)] vs) (hks : RpL G [.v (.ref fa)] ks)
 (hE : ∀ sr G' Lv h' e t tk, Kp s G sr G' → s.heap.get? Lv = none → G' Lv = none → Thr (Lv :: outer.filterMap (·.frame)) sr.heap e t (qx tk) "ValueError" .none h' → E (.ref e) { sr with heap := h' }) : wpAny (model Challenge.rw_wb0032_01.row.prog w) A (call (.ref 23) vs ([("key":Str)].zip ks)) Q E s := by
 refine k_rii (Z := fun vs => wpAny _ _ (call _ vs _) _ _ _) hvs fun v₁ t₂ t₃ r₁ => ?_
 obtain ⟨v₅, r₅, rfl, r5, rfl⟩ := hks
 obtain rfl : v₅ = .ref fa := r5
 have up : ∀ b o, g.get? b = some o → s.heap.get? b = some o := fun b o e => hin b o (hle b o e)
 revert X
 k_fill
 intro X
 k_dflt (refine' bo (os := []) (ρ := [(("lo":Str), .i (-1)), ("ValueError", .v (.type "ValueError"))]) X T hroom hin hle ?ho ?hcd ?hbody ?hbind ?hclo ?hkind ?hnd ?gl ?bu ?hos ?hod ?hρ ?hrun ?hco ?hgen ?hk; ((case ho | hcd => k_is); (case hnd => decide +kernel); (case hbody | hclo | gl | bu | hco | hgen | hk => exact rfl)); (case hbind => exact kp_binds (Frag.In.keeps X up) fun ux => rfl); (case hkind => exact rfl); (case hos => exact List.forall_mem_nil _); (case hod => exact List.nodup_nil))
 case hρ =>
  intro h L hn hc hg hb
  repeat' first | exact List.forall_mem_nil _ | with_reducible refine aM ?_ ?_
  · exact al hn rfl rfl rfl ⟨_, rfl⟩
  · exact aB hg hb rfl rfl rfl (mg_none_of X T.g (by k_is)) ((T.builtins _ (by decide)).trans (by decide +kernel))
 case hrun =>
  intro s₁ L f₁
  refine ky (by exact hA) f₁ m0 m1 rfl rfl fun s₂ G₂ h' e t tk f₂ m => ?_
  have fra : s.heap.get? L = none := by
   rcases f₂.F L (.head _) with q | q
   · exact absurd q List.not_mem_nil
   · exact q
  refine ej (outer := outer) (L := L) (Ls := L :: outer.filterMap (·.frame)) (h₀ := s₂.heap) ?hfr2 ?stk rfl (m _) fun h'' th => ?hfin
  case hfr2 =>
   show A.frames.map _ = _
   erw [hfr]; rfl
  case stk =>
   intro en hen
   rcases List.mem_cons.mp hen with rfl | hen
   · obtain ⟨m, ol, es, ep, el, dl, _⟩ := f₂.O.ns
     exact ⟨by erw [f₂.E.fn]; decide, L, ol, rfl, .head _, el, fun vs q => by rw [dl] at q; cases q⟩
   · obtain ⟨hk, L', o₁, hf, e₁, hnf⟩ := hst en hen
     exact ⟨hk, L', o₁, hf, .tail _ (List.mem_filterMap.mpr ⟨en, hen, hf⟩), f₂.kp.hp _ _ e₁, hnf⟩
  case hfin => exact hE s₂ G₂ L h'' e t tk f₂.kp fra f₂.O.gn th
set_option maxRecDepth 100000 in
set_option maxHeartbeats 4000000 in
theorem ct_negl {w : World} {A : Around} {g : Heap} {p : Program} {loose : List Str} {mean : ExcName → Option Value} {mg mb : Str → Option Value} (X : (hd.heap_39 w.params).In g) (T : Top p loose mean mg mb g) (hA : A.handled = none) (hroom : A.depth < recursionLimit)
 {s : Shared} {G : Mem} {Q E : Value → Shared → Prop} {vs ks : List Value} {xs : List D} {fa : Addr} {outer : List Env} (hfr : A.frames = some outer) (hst : ∀ en ∈ outer, en.scope.kind ≠ .module ∧ ∃ L o, en.frame = some L ∧ s.heap.get? L = some o ∧ ∀ vs, o.data ≠ .fields vs)
 (hin : In G s.heap) (hle : Le g.get? G) (hvs : RpL G [.l xs, .i 1, .i (-1)] vs) (hks : RpL G [.v (.ref fa)] ks)
 (hE : ∀ sr G' Lv h' e t tk, Kp s G sr G' → s.heap.get? Lv = none → G' Lv = none → Thr (Lv :: outer.filterMap (·.frame)) sr.heap e t (qx tk) "ValueError" .none h' → E (.ref e) { sr with heap := h' }) : wpAny (model Challenge.rw_wb0032_01.row.prog w) A (call (.ref 32) vs ([("key":Str)].zip ks)) Q E s := by
 refine k_rii (Z := fun vs => wpAny _ _ (call _ vs _) _ _ _) hvs fun v₁ t₂ t₃ r₁ => ?_
 obtain ⟨v₅, r₅, rfl, r5, rfl⟩ := hks
 obtain rfl : v₅ = .ref fa := r5
 have up : ∀ b o, g.get? b = some o → s.heap.get? b = some o := fun b o e => hin b o (hle b o e)
 revert X
 k_fill
 intro X
 k_dflt (refine' bo (os := []) (ρ := [(("lo":Str), .i (-1)), ("ValueError", .v (.type "ValueError"))]) X T hroom hin hle ?ho ?hcd ?hbody ?hbind ?hclo ?hkind ?hnd ?gl ?bu ?hos ?hod ?hρ ?hrun ?hco ?hgen ?hk; ((case ho | hcd => k_is); (case hnd => decide +kernel); (case hbody | hclo | gl | bu | hco | hgen | hk => exact rfl)); (case hbind => exact kp_binds (Frag.In.keeps X up) fun ux => rfl); (case hkind => exact rfl); (case hos => exact List.forall_mem_nil _); (case hod => exact List.nodup_nil))
 case hρ =>
  intro h L hn hc hg hb
  repeat' first | exact List.forall_mem_nil _ | with_reducible refine aM ?_ ?_
  · exact al hn rfl rfl rfl ⟨_, rfl⟩
  · exact aB hg hb rfl rfl rfl (mg_none_of X T.g (by k_is)) ((T.builtins _ (by decide)).trans (by decide +kernel))
 case hrun =>
  intro s₁ L f₁
  refine ky (by exact hA) f₁ m0 m1 rfl rfl fun s₂ G₂ h' e t tk f₂ m => ?_
  have fra : s.heap.get? L = none := by
   rcases f₂.F L (.head _) with q | q
   · exact absurd q List.not_mem_nil
   · exact q
  refine ej (outer := outer) (L := L) (Ls := L :: outer.filterMap (·.frame)) (h₀ := s₂.heap) ?hfr2 ?stk rfl (m _) fun h'' th => ?hfin
  case hfr2 =>
   show A.frames.map _ = _
   erw [hfr]; rfl
  case stk =>
   intro en hen
   rcases List.mem_cons.mp hen with rfl | hen
   · obtain ⟨m, ol, es, ep, el, dl, _⟩ := f₂.O.ns
     exact ⟨by erw [f₂.E.fn]; decide, L, ol, rfl, .head _, el, fun vs q => by rw [dl] at q; cases q⟩
   · obtain ⟨hk, L', o₁, hf, e₁, hnf⟩ := hst en hen
     exact ⟨hk, L', o₁, hf, .tail _ (List.mem_filterMap.mpr ⟨en, hen, hf⟩), f₂.kp.hp _ _ e₁, hnf⟩
  case hfin => exact hE s₂ G₂ L h'' e t tk f₂.kp fra f₂.O.gn th
set_option tactic.hygienic false
noncomputable def ge (pc : Pos) : Arguments := { posonlyargs := [], args := [{ arg := "c", annotation := none, pos := pc }], vararg := none, kwonlyargs := [], kw_defaults := [], kwarg := none, defaults := [] }
noncomputable def keyScope : Scope := { kind := .function, names := [(("c":Str), .local), ("book", .free), ("root", .free), ("_law_counts", .globalImplicit)], isGenerator := false, isCoroutine := false }
noncomputable def jG (k : Int) (kk : Nat) (p1 p2 p3 p4 p5 p6 p7 : Pos) : Expr := .Subscript (.Call (.Name ("_law_counts":Str) p1) [.Name ("root":Str) p2, .Name ("c":Str) p3, .Name ("book":Str) p4] [] p5) (.Constant (.int k) kk p6) p7
set_option maxRecDepth 100000 in
set_option maxHeartbeats 8000000 in
theorem nF {w' : World} {A : Around} {g : Heap} {p : Program} {loose : List Str} {mean : ExcName → Option Value} {mg mb : Str → Option Value} (X : (hd.heap_39 w'.params).In g) (T : Top p loose mean mg mb g) (hroom : A.depth + 10 < recursionLimit) (hU : A.units + 80 < cLine)
 {Gt : Mem} {par : Nat → Nat} {d w : Nat → Int} {odd : Nat → Bool} {fs Ls ats : Nat → Addr} (hT : TreeF Challenge.rw_wb0032_01.row.prog w' Gt par d w odd fs Ls ats) (hp : ∀ k, 1 ≤ k → k < 6 → par k < k) (hw : ∀ k, Nb (w k ^ 2) 4) (hw2 : ∀ k, Nb (w k) 4)
 {dom : Int → Prop} (hdom : ∀ c, dom c → (-1000 ≤ c ∧ c < -1000 + (2000 : Nat)) ∧ ∀ v, Nb (d v - c) 8) {bk : Addr} (hbk : (bk == sysModules) = false)
 {base : Heap} {G : Mem} (hle : Le g.get? G) (hlt : Le Gt G) {fa c' cb cr : Addr} {nm qual : Str} {pm ctv : Value} {kk : Nat} {p1 p2 p3 p4 p5 p6 p7 pc : Pos}
 (k : Nat) (hfa : base.get? fa = some (kla_obj nm qual (ge pc) (jG k kk p1 p2 p3 p4 p5 p6 p7) keyScope [(("root":Str), cr), (("book":Str), cb)] pm c' ctv)) (hrec : base.CodeRec (.ref c') qual)
 (hcb : base.IsCell cb (some (.ref bk))) (hcr : base.IsCell cr (some (.ref (fs 0)))) (hob : ∃ o, base.get? bk = some o ∧ ∃ es ep, o.data = .dict es ep)
 (κ : Int → Int) (hκ : ∀ c, (k = 0 ∧ κ c = (cnt par d w c).1) ∨ (k = 1 ∧ κ c = (cnt par d w c).2)) :
 jT (model Challenge.rw_wb0032_01.row.prog w') A G [(bk, aA Challenge.rw_wb0032_01.row.prog w' dom (nuD par d w) fun ux => False)] fa κ dom base := by
 obtain ⟨ob, eob, es, ep, dob⟩ := hob
 revert X
 k_fill
 intro X
 obtain ⟨o106, e106, fd106, d106⟩ : ∃ o, g.get? 106 = some o ∧ ∃ fd, o.data = .func fd := ⟨_, X 106 _ (by k_is), _, rfl⟩
 have hmg : mg ("_law_counts":Str) = some (.ref 106) := mg_of X T.g (by k_is)
 have n1 : fa ≠ bk := fun q => by rw [q, eob] at hfa; cases hfa; cases dob
 have n2 : c' ≠ bk := fun q => by
  obtain ⟨c, o, vs, t, e1, e2, e3, _⟩ := hrec
  cases e1
  rw [q, eob] at e2; cases e2; rw [dob] at e3; cases e3
 have n3 : cb ≠ bk := fun q => by
  obtain ⟨o, e2, e3⟩ := hcb
  rw [q, eob] at e2; cases e2; rw [dob] at e3; cases e3
 have n4 : cr ≠ bk := fun q => by
  obtain ⟨o, e2, e3⟩ := hcr
  rw [q, eob] at e2; cases e2; rw [dob] at e3; cases e3
 have nb : ∀ {b : Addr}, b ≠ bk → b ∉ [(bk, aA Challenge.rw_wb0032_01.row.prog w' dom (nuD par d w) fun ux => False)].map (·.1) := fun h m => h (List.mem_singleton.mp m)
 refine ⟨⟨_, _, hfa, rfl⟩, nb n1, ?_⟩
 intro A' s G₁ Q E vs c hA hd hu hc hkeep hin hle₁ hvs hh hQ
 obtain ⟨v, r, rfl, ⟨t, rfl⟩, rfl⟩ := hvs
 have efa := hkeep fa _ (nb n1) hfa
 have hg1 : Le g.get? G₁ := hle.tr hle₁
 have up : ∀ b o, g.get? b = some o → s.heap.get? b = some o := fun b o e => hin b o (hg1 b o e)
 refine wpAny_call (kla_callFunE (by lia) efa rfl rfl rfl rfl (hrec.at fun o e => hkeep c' o (nb n2) e) ?_)
 refine (BindsTo.of_eq (binds := [(("c":Str), .int c t)]) rfl) _ _ _ _ ?_
 refine wpAny_newFunctionEnv (by show ∀ x ∈ keyScope.names, x.2 ≠ .cell; decide) (fun x hx => by erw [List.mem_singleton.mp hx]; exact rfl) (fun h' hns hsb => ?_) rfl
 have fL : s.heap.get? s.heap.objs.size = none := aq _
 have old : ∀ b o, s.heap.get? b = some o → h'.get? b = some o := fun b o e => hsb.extBut b o (fun q => by rw [q, fL] at e; cases e) (Heap.get?_push_of_some _ e)
 have K : Kp s G₁ { s with heap := h', toks := s.toks + 1 } G₁ := g8 hin old
 have hE : En h' G₁ (newEnv keyScope s.heap.objs.size mainGlobals [(("root":Str), cr), (("book":Str), cb)] (qual ++ ".<locals>.") (some fa) (.ref c') none builtinsNs) [(("root":Str), .v (.ref (fs 0))), ("c", .i c), ("book", .v (.ref bk)), ("_law_counts", .g g.get? (.ref 106))] := by
  refine ⟨rfl, ⟨mg, (T.g.keeps up).keeps old⟩, ⟨mb, (T.b.keeps up).keeps old⟩, K.sub, ?_⟩
  repeat' first | exact List.forall_mem_nil _ | with_reducible refine aM ?_ ?_
  · obtain ⟨o, e, q⟩ := hcr
    exact ⟨_, .fre rfl rfl ⟨o, old _ _ (hkeep cr o (nb n4) e), q⟩ (by show (("root":Str) == ("__classdict__":Str)) = false; decide), rfl⟩
  · exact al hns rfl rfl rfl ⟨_, rfl⟩
  · obtain ⟨o, e, q⟩ := hcb
    exact ⟨_, .fre rfl rfl ⟨o, old _ _ (hkeep cb o (nb n3) e), q⟩ (by show (("book":Str) == ("__classdict__":Str)) = false; decide), rfl⟩
  · exact bi ((T.g.keeps up).keeps old) rfl rfl hmg hg1
 refine ⟨(T.nolimit.keeps up).keeps old, kla_codeExpr ?_⟩
 refine Subscript_ (Call_Name rfl (aa (d := .g g.get? (.ref 106)) m3 (by decide) rfl _ _ _ _ hE fun f s₁ G₂ k₁ r => ?_))
 obtain ⟨rfl, le₁⟩ := r
 have hL : EvL (model Challenge.rw_wb0032_01.row.prog w') (A'.deeper (newEnv keyScope s.heap.objs.size mainGlobals [(("root":Str), cr), (("book":Str), cb)] (qual ++ ".<locals>.") (some fa) (.ref c') none builtinsNs)) (newEnv keyScope s.heap.objs.size mainGlobals [(("root":Str), cr), (("book":Str), cb)] (qual ++ ".<locals>.") (some fa) (.ref c') none builtinsNs) [(("root":Str), .v (.ref (fs 0))), ("c", .i c), ("book", .v (.ref bk)), ("_law_counts", .g g.get? (.ref 106))] [.Name ("root":Str) p2, .Name ("c":Str) p3, .Name ("book":Str) p4] [.v (.ref (fs 0)), .i c, .v (.ref bk)] := ab (aa m0) (ab (aa m1) (ab (aa m2) ae))
 have key : wpAny (model Challenge.rw_wb0032_01.row.prog w') (A'.deeper (newEnv keyScope s.heap.objs.size mainGlobals [(("root":Str), cr), (("book":Str), cb)] (qual ++ ".<locals>.") (some fa) (.ref c') none builtinsNs)) (evalArgs (.ref 106) true (backTo p5 (starEach [.Name ("root":Str) p2, .Name ("c":Str) p3, .Name ("book":Str) p4] (newEnv keyScope s.heap.objs.size mainGlobals [(("root":Str), cr), (("book":Str), cb)] (qual ++ ".<locals>.") (some fa) (.ref c') none builtinsNs))) []) (fun x s₂ => ∃ G₃, Kp s₁ G₂ s₂ G₃ ∧ RpL G₃ [.v (.ref (fs 0)), .i c, .v (.ref bk)] x.pos ∧ x.kw = []) (fun ux ux => False) s₁ := by
  have h := hL p5 s₁ G₂ (fun vs s₂ => ∃ G₃, Kp s₁ G₂ s₂ G₃ ∧ RpL G₃ [.v (.ref (fs 0)), .i c, .v (.ref bk)] vs ∧ ([] : List (Str × Value)) = []) (fun ux ux => False) (hE.go k₁) fun vs s₂ G₃ k₂ r₂ => ⟨G₃, k₂, r₂, rfl⟩
  exact evalArgs_plain h
 refine callWith_function (o := o106) (fd := fd106) (wpAny_mono key (fun x s₂ h => ?_) fun ux ux h => h.elim)
 obtain ⟨G₃, k₂, r₂, hk⟩ := h
 have K2 := (K.tr k₁).tr k₂
 refine ⟨⟨K2.hp _ _ (up _ _ e106), d106⟩, ?_⟩
 erw [hk]
 refine nX (A := A'.deeper _) X T (by exact hA) (by show A'.depth + 1 + 7 < _; lia) (by show A'.units + 3 + 67 < _; lia) hT hp (hdom c hc).2 hw hw2 (fun c h => (hdom c h).1) hc hbk K2.sub (hg1.tr K2.le) ((hlt.tr hle₁).tr K2.le) r₂ (hh.go K2) fun s₃ G₄ u ef ru => ?_
 have hg4 : Le g.get? G₄ := (hg1.tr K2.le).tr ef.K.le
 have up4 : ∀ b o, g.get? b = some o → s₃.heap.get? b = some o := fun b o e => ef.K.sub _ _ (hg4 b o e)
 have hx : ([.i (cnt par d w c).1, .i (cnt par d w c).2] : List D)[k]? = some (.i (κ c)) := by
  rcases hκ c with ⟨rfl, q⟩ | ⟨rfl, q⟩ <;> erw [q] <;> rfl
 have hk2 : k < 2 := by rcases hκ c with ⟨rfl, _⟩ | ⟨rfl, _⟩ <;> decide
 refine (ad (ρ := [])) s₃ G₄ _ _ ⟨rfl, ⟨mg, T.g.keeps up4⟩, ⟨mb, T.b.keeps up4⟩, ef.K.sub, fun p hp => nomatch hp⟩ fun i s₄ G₅ k₅ r₅ => ?_
 obtain ⟨ui, rfl⟩ := r₅
 obtain ⟨a, its, rfl, hl, hsz, q⟩ := bW k₅.sub (ru.mono k₅.le)
 obtain ⟨x, hx', rx⟩ := q.get hx
 refine kba_turn (value' := PySem.Expr.Name (PySem.Str.ofString "_") ⟨0, 0, 0, 0⟩) (fun ux => rfl) (item_tuple (j := k) hl (by lia) (by lia) ?_ (by simpa using hx') ?_ (by with_unfolding_all rfl) (fun ux => rfl))
 · unfold seqIndex?
   have hneg : ¬ (k : Int) < 0 := by lia
   simp only [hneg, if_false]
   erw [if_pos (by simp; erw [hsz]; show k < 2; exact hk2), Int.toNat_natCast]
 · have h5 : Held G₅ s₄.heap [(bk, aA Challenge.rw_wb0032_01.row.prog w' dom (nuD par d w) fun ux => False)] := ef.H.go k₅
   have gb : ∀ b ∈ [(bk, aA Challenge.rw_wb0032_01.row.prog w' dom (nuD par d w) fun ux => False)].map (·.1), G₅ b = none := fun b hb => by
    obtain ⟨p, hp, rfl⟩ := List.mem_map.mp hb
    exact (h5.1 p hp).1
   have gb4 : ∀ b ∈ [(bk, aA Challenge.rw_wb0032_01.row.prog w' dom (nuD par d w) fun ux => False)].map (·.1), G₄ b = none := fun b hb => by
    obtain ⟨p, hp, rfl⟩ := List.mem_map.mp hb
    exact (ef.H.1 p hp).1
   exact hQ x s₄ G₅ ⟨((KpB.of K2).tr ef.K gb4).tr (KpB.of k₅) gb, h5, fun p hp => .inl (List.mem_map_of_mem hp)⟩ rx
set_option tactic.hygienic false
theorem pi {α β : Type} (f : α → β) (xs : List α) (lo hi st : Option Int) : pick (xs.map f) lo hi st = (pick xs lo hi st).map f := by
 unfold pick
 erw [List.length_map, List.map_filterMap]
 congr 1
 funext i
 erw [List.getElem?_map]
theorem jg {α : Type} (xs : List α) {a : Int} (h : 0 ≤ a) : (pick xs (some a) none (some 7)).length ≤ xs.length := by
 unfold pick
 refine Nat.le_trans (List.length_filterMap_le _ _) ?_
 have h1 : ¬ (a < 0) := by lia
 simp only [sliceBounds, Option.getD_some, h1, if_false, show (7 : Int) > 0 by decide, if_true, sliceRange, List.length_map, List.length_range]
 split <;> lia
noncomputable def eh (sc : List Int) (t : Nat) : List Int := (pick (sc.take 60) (some (t : Int)) none (some 7)).map fun x => x.fmod 1000000
noncomputable def base7 : List Int := [67, 3, 6, 9, 33, 56, 4208]
noncomputable def aQ (sc : List Int) : List Int := (List.range 7).map fun t => base7.getD t 0 + (eh sc t).sum
theorem qM : ∀ (l : List Int), (∀ x ∈ l, 0 ≤ x ∧ x ≤ 999999) → 0 ≤ l.sum ∧ l.sum ≤ 999999 * l.length
 | [], _ => by simp
 | x :: l, h => by
   have h1 := qM l fun y hy => h y (.tail _ hy)
   have h2 := h x (.head _)
   erw [List.sum_cons, List.length_cons]
   lia
theorem rN (sc : List Int) (t : Nat) : 0 ≤ (eh sc t).sum ∧ (eh sc t).sum ≤ 59999940 := by
 have h := qM (eh sc t) fun x hx => by
  obtain ⟨y, _, rfl⟩ := List.mem_map.mp hx
  have h1 := Int.fmod_nonneg_of_pos y (show (0 : Int) < 1000000 by decide)
  have h2 := Int.fmod_lt_of_pos y (show (0 : Int) < 1000000 by decide)
  lia
 have hl : (eh sc t).length ≤ 60 := by
  unfold eh
  erw [List.length_map]
  refine Nat.le_trans (jg _ (Int.natCast_nonneg t)) ?_
  erw [List.length_take]; lia
 lia
theorem oy (sc : List Int) : (aQ sc).length = 7 := by unfold aQ; erw [List.length_map, List.length_range]
theorem cells_get (sc : List Int) {k : Nat} (h : k < 7) : (aQ sc)[k]? = some (base7.getD k 0 + (eh sc k).sum) := by
 unfold aQ
 erw [List.getElem?_map, List.getElem?_range h]; rfl
theorem qP : ∀ k, k < 7 → 3 ≤ base7.getD k 0 ∧ base7.getD k 0 ≤ 4208 := by decide
theorem kD (sc : List Int) : ∀ c ∈ aQ sc, 0 ≤ c ∧ c < 64 ^ 5 := by
 intro c hc
 obtain ⟨t, ht, rfl⟩ := List.mem_map.mp hc
 have := qP t (List.mem_range.mp ht)
 have := rN sc t
 lia
noncomputable def eV (j n : Nat) : List Nat := (List.range j).reverse.map fun i => n / 64 ^ (i + 1) % 64 + 64
noncomputable def lC (j n : Nat) : List Nat := match eV j n ++ [n % 64] with
 | [] => []
 | d :: r => (d + 128) :: r
theorem thr (n : Nat) (h : n < 64 ^ 6) : ∃ j, j < 6 ∧ n < 64 ^ (j + 1) ∧ ∀ k, 1 ≤ k → k ≤ j → 64 ^ k ≤ n := by
 have : ∀ m, n < 64 ^ (m + 1) → ∃ j, j < m + 1 ∧ n < 64 ^ (j + 1) ∧ ∀ k, 1 ≤ k → k ≤ j → 64 ^ k ≤ n := by
  intro m
  induction m with
  | zero => intro h; exact ⟨0, Nat.zero_lt_one, h, fun k h1 h2 => absurd h1 (by lia)⟩
  | succ m ih =>
    intro h
    by_cases q : n < 64 ^ (m + 1)
    · obtain ⟨j, h1, h2⟩ := ih q
      exact ⟨j, Nat.lt_succ_of_lt h1, h2⟩
    · exact ⟨m + 1, Nat.lt_succ_self _, h, fun k ux h2 => Nat.le_trans (Nat.pow_le_pow_right (by decide) h2) (Nat.le_of_not_lt q)⟩
 exact this 5 h
theorem fil_le : ∀ j, j < 6 → ([5, 4, 3, 2, 1] : List Int).filter (fun k => decide (k.toNat ≤ j)) = (List.range j).reverse.map fun (i : Nat) => ((i + 1 : Nat) : Int) := by decide
theorem oct_ex (n : Nat) (h : n < 64 ^ 6) (wide : Int) : ∃ j, j < 6 ∧ n < 64 ^ (j + 1) ∧ cK n wide = (lC j n).map fun (x : Nat) => (x : Int) := by
 have fin : ∀ j, j < 6 → (∀ k ∈ ([5, 4, 3, 2, 1] : List Int), ((wide == 1) || decide ((n : Int) ≥ 64 ^ k.toNat)) = decide (k.toNat ≤ j)) → cK n wide = (lC j n).map fun (x : Nat) => (x : Int) := by
  intro j hj hk
  have e : i0 n wide = (eV j n ++ [n % 64]).map fun (x : Nat) => (x : Int) := by
   unfold i0 eV
   erw [List.filter_congr hk, fil_le j hj, List.map_map, List.map_append, List.map_map]
   congr 1
  unfold cK lC
  erw [e]
  cases eV j n ++ [n % 64] with
  | nil => rfl
  | cons d r => rfl
 by_cases hw : wide = 1
 · refine ⟨5, by decide, h, fin 5 (by decide) ?_⟩
   intro k hk
   erw [hw, beq_self_eq_true, Bool.true_or]
   exact (by decide : ∀ k ∈ ([5, 4, 3, 2, 1] : List Int), true = decide (k.toNat ≤ 5)) k hk
 · obtain ⟨j, hj, h1, h2⟩ := thr n h
   refine ⟨j, hj, h1, fin j hj fun k hk => ?_⟩
   have hk1 : 1 ≤ k.toNat := by
    simp only [List.mem_cons, List.not_mem_nil, or_false] at hk
    rcases hk with rfl | rfl | rfl | rfl | rfl <;> decide
   erw [show (wide == 1) = false from beq_eq_false_iff_ne.mpr hw, Bool.false_or]
   congr 1
   erw [eq_iff_iff]
   have g : ((n : Int) ≥ 64 ^ k.toNat) ↔ 64 ^ k.toNat ≤ n := by
    erw [ge_iff_le, ← Int.ofNat_le, Int.natCast_pow]; rfl
   erw [g]
   constructor
   · intro q
     refine Nat.le_of_not_lt fun z => ?_
     have := Nat.pow_le_pow_right (n := 64) (by decide) (show j + 1 ≤ k.toNat from z)
     lia
   · exact h2 _ hk1
theorem p0 {M : List Nat} {z : Nat} (hM : ∀ o ∈ M, o < 256 ∧ o / 64 % 2 = 1) (hz : z < 256 ∧ z / 64 % 2 = 0) (hl : M.length ≤ 7) : kj (M ++ [z]) := by
 refine ⟨by erw [List.length_append, List.length_singleton]; lia, by erw [List.length_append, List.length_singleton]; lia, fun o ho => ?_, fun j hj => ?_, ?_⟩
 · rcases List.mem_append.mp ho with q | q
   · exact (hM o q).1
   · erw [List.mem_singleton.mp q]; exact hz.1
 · rw [List.length_append, List.length_singleton] at hj
   erw [List.getD_eq_getElem?_getD, List.getElem?_append_left (by lia), List.getElem?_eq_getElem (by lia)]
   exact (hM _ (List.getElem_mem _)).2
 · erw [List.length_append, List.length_singleton, Nat.add_sub_cancel, List.getD_eq_getElem?_getD, List.getElem?_append_right (Nat.le_refl _), Nat.sub_self]
   exact hz.2
theorem kN (n : Nat) : ∀ j v, (eV j n).foldl (fun v o => v * 64 + o % 64) v = v * 64 ^ j + n / 64 % 64 ^ j
 | 0, v => by unfold eV; simp [Nat.mod_one]
 | j + 1, v => by
   have e : eV (j + 1) n = (n / 64 ^ (j + 1) % 64 + 64) :: eV j n := by
    unfold eV
    erw [List.range_succ, List.reverse_append]
    rfl
   erw [e, List.foldl_cons, kN n j, Nat.mod_pow_succ, Nat.div_div_eq_div_mul, Nat.add_mul, Nat.pow_succ 64 j, Nat.mul_comm 64 (64 ^ j), Nat.mul_assoc v 64, Nat.mul_comm 64 (64 ^ j), show (n / (64 ^ j * 64) % 64 + 64) % 64 = n / (64 ^ j * 64) % 64 by lia, Nat.mul_comm (n / (64 ^ j * 64) % 64)]
   lia
theorem dig_mem {j n o : Nat} (h : o ∈ eV j n) : o < 128 ∧ 64 ≤ o := by
 obtain ⟨i, _, rfl⟩ := List.mem_map.mp h
 lia
theorem octN_ok {j n : Nat} (hj : j < 6) (h : n < 64 ^ (j + 1)) : kj (lC j n) ∧ vat (lC j n) (lC j n).length = n := by
 have hl : (eV j n).length = j := by unfold eV; simp
 have hf := kN n j 0
 have hn : n / 64 < 64 ^ j := Nat.div_lt_of_lt_mul (by erw [Nat.mul_comm, ← Nat.pow_succ]; exact h)
 rw [Nat.mod_eq_of_lt hn, Nat.zero_mul, Nat.zero_add] at hf
 have hm : ∀ o ∈ eV j n, o < 128 ∧ 64 ≤ o := fun o => dig_mem
 unfold lC vat
 erw [List.take_length]
 cases q : eV j n with
 | nil =>
   rw [q] at hf
   refine ⟨p0 (M := []) (z := n % 64 + 128) (fun o ho => nomatch ho) (by lia) (by simp), ?_⟩
   simp only [List.foldl_nil] at hf
   simp only [List.nil_append, List.foldl_cons, List.foldl_nil]
   lia
 | cons d r =>
   rw [q] at hf hm hl
   refine ⟨p0 (M := (d + 128) :: r) (z := n % 64) (fun o ho => ?_) (by lia) (by rw [List.length_cons] at hl ⊢; lia), ?_⟩
   · rcases List.mem_cons.mp ho with rfl | ho
     · have := hm d (.head _); lia
     · have := hm o (.tail _ ho); lia
   · rw [List.foldl_cons] at hf
     simp only [List.cons_append, List.foldl_cons, List.foldl_append, List.foldl_nil]
     erw [show (d + 128) % 64 = d % 64 by lia, hf]
     lia
noncomputable def iQ (sc : List Int) (i : Nat) : List Nat := (cK ((aQ sc).getD i 0) ((i : Int) % 2)).map Int.toNat
theorem ie (sc : List Int) {i : Nat} (hi : i < 7) : kj (iQ sc i) ∧ (vat (iQ sc i) (iQ sc i).length : Int) = (aQ sc).getD i 0 ∧ cK ((aQ sc).getD i 0) ((i : Int) % 2) = (iQ sc i).map fun (x : Nat) => (x : Int) := by
 have hm : (aQ sc).getD i 0 ∈ aQ sc := by
  erw [List.getD_eq_getElem?_getD, List.getElem?_eq_getElem (by erw [oy]; exact hi)]
  exact List.getElem_mem _
 obtain ⟨h0, h1⟩ := kD sc _ hm
 obtain ⟨n, hn⟩ := Int.eq_ofNat_of_zero_le h0
 unfold iQ
 rw [hn] at h1 ⊢
 obtain ⟨j, hj, h2, e⟩ := oct_ex n (Nat.lt_trans (Int.ofNat_lt.mp (show (n : Int) < ((64 ^ 5 : Nat) : Int) from h1)) (by decide)) ((i : Int) % 2)
 have e2 : (cK n ((i : Int) % 2)).map Int.toNat = lC j n := by
  erw [e, List.map_map]
  exact List.map_id' _
 erw [e2]
 obtain ⟨a, b⟩ := octN_ok hj h2
 exact ⟨a, by erw [b], e⟩
noncomputable def nK (cs : List Int) (k : Nat) : Nat := (oM (cs.getD k 0) k).toNat
noncomputable def dF (cs : List Int) (k : Nat) : Int := iz (cs.getD k 0) k % 5 - 2
noncomputable def wF (cs : List Int) (k : Nat) : Int := iz (cs.getD k 0) k / 5 % 2 + 1
theorem par_lt (cs : List Int) {k : Nat} (h : 1 ≤ k) : nK cs k < k := by
 unfold nK oM
 have h1 := Int.emod_nonneg (cs.getD k 0) (show max (k : Int) 1 ≠ 0 by lia)
 have h2 := Int.emod_lt_of_pos (cs.getD k 0) (show 0 < max (k : Int) 1 by lia)
 lia
theorem mK (cs : List Int) (k : Nat) : wF cs k = 1 ∨ wF cs k = 2 := by unfold wF; lia
theorem dF_bd (cs : List Int) (k : Nat) : -2 ≤ dF cs k ∧ dF cs k ≤ 2 := by unfold dF; lia
theorem wF_ne (cs : List Int) (k : Nat) : wF cs k ≠ 0 := by have := mK cs k; lia
theorem nb_w2 (cs : List Int) (k : Nat) : Nb (wF cs k ^ 2) 4 := by rcases mK cs k with h | h <;> erw [h] <;> (unfold Nb; decide)
theorem nb_w (cs : List Int) (k : Nat) : Nb (wF cs k) 4 := by rcases mK cs k with h | h <;> erw [h] <;> (unfold Nb; decide)
theorem nb_d (cs : List Int) (k : Nat) {c : Int} (h : -12 ≤ c ∧ c ≤ 12) : Nb (dF cs k - c) 8 := by
 have := dF_bd cs k
 show (dF cs k - c).natAbs < 2 ^ 8
 lia
theorem pM (c0 c1 c2 c3 c4 c5 c6 : Int) : [part c0 0, part c1 1, part c2 2, part c3 3, part c4 4, part c5 5] = bb (nK [c0, c1, c2, c3, c4, c5, c6]) (dF [c0, c1, c2, c3, c4, c5, c6]) (wF [c0, c1, c2, c3, c4, c5, c6]) := by
 have e : ∀ (c : Int) (k : Nat) (cs : List Int), cs.getD k 0 = c → D.t [.i (nK cs k : Int), .i (dF cs k), .i (wF cs k)] = part c k := by
  intro c k cs h
  unfold nK dF wF part
  erw [h, Int.toNat_of_nonneg (show 0 ≤ oM c k from Int.emod_nonneg _ (by lia))]
 unfold bb
 simp only [List.range_succ, List.range_zero, List.nil_append, List.map_cons, List.map_nil, List.cons_append]
 erw [e c0 0 _ rfl, e c1 1 _ rfl, e c2 2 _ rfl, e c3 3 _ rfl, e c4 4 _ rfl, e c5 5 _ rfl]
 rfl
theorem km (D : Nat) : ∀ m lo, (List.range' lo m).countP (fun i => decide (i < D)) = min (D - lo) m
 | 0, lo => by simp
 | m + 1, lo => by
   erw [List.range'_succ, List.countP_cons, km D m]
   by_cases h : lo < D
   · erw [if_pos (decide_eq_true h)]; lia
   · erw [if_neg (by simp; lia)]; lia
theorem bz_lt {D lo hi : Nat} (h : lo ≤ hi) : bz (fun i => decide (i < D)) lo hi = min (max D lo) hi := by
 unfold bz; erw [km]; lia
theorem kX {p : Nat → Bool} : ∀ {n : Nat}, bQ p 0 n → ∃ D, ∀ i, i < n → p i = decide (i < D)
 | 0, _ => ⟨0, fun i h => absurd h (Nat.not_lt_zero _)⟩
 | n + 1, h => by
   cases q : p n with
   | true => exact ⟨n + 1, fun i hi => by erw [decide_eq_true hi]; exact h i n (Nat.zero_le _) (by lia) (Nat.lt_succ_self _) q⟩
   | false =>
     obtain ⟨D, hD⟩ := kX (p := p) (n := n) fun i j h1 h2 h3 => h i j h1 h2 (by lia)
     refine ⟨min D n, fun i hi => ?_⟩
     by_cases e : i = n
     · erw [e, q]; exact (decide_eq_false (by lia)).symm
     · erw [hD i (by lia)]; exact decide_eq_decide.mpr (by lia)
theorem je {p q : Nat → Bool} {lo hi : Nat} (h : ∀ i, lo ≤ i → i < hi → p i = q i) : bz p lo hi = bz q lo hi := by
 unfold bz
 congr 1
 refine List.countP_congr fun i hi => ?_
 rw [List.mem_range'_1] at hi
 erw [h i hi.1 (by lia)]
theorem pe {p : Nat → Bool} {n lo hi : Nat} (h : bQ p 0 n) (h1 : lo ≤ hi) (h2 : hi ≤ n) : bz p lo hi = min (max (bz p 0 n) lo) hi := by
 obtain ⟨D, hD⟩ := kX h
 erw [je (q := fun i => decide (i < D)) (lo := lo) (hi := hi) fun i ux hi => hD i (by lia), je (q := fun i => decide (i < D)) (lo := 0) (hi := n) fun i ux hi => hD i hi, bz_lt h1, bz_lt (Nat.zero_le _)]
 lia
noncomputable def aw (least : Int) : List Int := (List.range 7).map fun (i : Nat) => least + i
theorem fk (least : Int) {i : Nat} (h : i < 7) : (aw least).getD i 0 = least + i := by
 unfold aw
 erw [List.getD_eq_getElem?_getD, List.getElem?_map, List.getElem?_range h]; rfl
theorem aN (least : Int) : (aw least).length = 7 := by unfold aw; erw [List.length_map, List.length_range]
theorem anti_of {κ : Nat → Int} {q : Int → Bool} (hm : ∀ i, κ i ≤ κ (i + 1)) (hq : ∀ a b, a ≤ b → q b = true → q a = true) (n : Nat) : bQ (fun i => q (κ i)) 0 n := by
 have mono : ∀ m i, κ i ≤ κ (i + m) := by
  intro m
  induction m with
  | zero => intro i; exact Int.le_refl _
  | succ m ih => intro i; exact Int.le_trans (ih i) (hm (i + m))
 intro i j _ h _ hj
 obtain ⟨m, rfl⟩ := Nat.exists_eq_add_of_le h
 exact hq _ _ (mono m i) hj
theorem g5 {p q : Nat → Bool} {n : Nat} (h : bQ p 0 n) (e : ∀ i, i < n → q i = p i) : bQ q 0 n := fun i j h1 h2 h3 h4 => by
 erw [e i (by lia)]
 rw [e j h3] at h4
 exact h i j h1 h2 h3 h4
theorem io {α : Type} (g : Nat → α) (q : α → Bool) (n : Nat) : (((List.range n).map g).filter q).length = bz (fun i => q (g i)) 0 n := by
 unfold bz
 rw [← List.countP_eq_length_filter, List.countP_map, Nat.zero_add, Nat.sub_zero, List.range_eq_range']
 rfl
theorem horn_ne {par : Nat → Nat} {d w : Nat → Int} (hp : ∀ k ∈ [1, 2, 3, 4, 5], par k < k) (hw : ∀ k, w k ≠ 0) (c : Int) : ∃ k, k < 7 ∧ (gk c (b9 par d w)).getD k 0 ≠ 0 := by
 refine ⟨6, by decide, ?_⟩
 have D := (gi (d := fun v => d v - c) List.nodup_range (ed [1, 2, 3, 4, 5] par w) (tr6 hp hw).gr.ne (tr6 hp hw).gr.inV (b7 0)).2
 rw [show sz (b7 0) (List.range 6) = 6 by decide] at D
 erw [d7 hp]
 show pl _ _ _ _ (0 + 1 + 1 + 1 + 1 + 1 + 1) ≠ 0
 erw [show 0 + 1 + 1 + 1 + 1 + 1 + 1 = 6 from rfl, D]
 decide
set_option tactic.hygienic false
section
variable {prog : Program} {w : World} {A : Around} {s : Shared} {G : Mem} {ρ : List (Str × D)} {os : List (Addr × Kd)} {K : Frag} {g : Heap} {p : Program} {loose : List Str} {mean : ExcName → Option Value} {mg mb : Str → Option Value}
theorem enterC {R : Result → Shared → Prop} {a : Addr} {o : Obj} {fd : FuncData} {body : List Stmt} {args : List Value} {kw : List (Str × Value)} {binds : List (Str × Value)}
 (hroom : A.depth < recursionLimit) (hin : In G s.heap) (ho : s.heap.get? a = some o) (hdata : o.data = .func fd) (hlim : s.heap.NoLimit) (hcd : s.heap.CodeRec fd.code fd.qualname)
 (hbody : fd.body = .stmts body) (hbind : BindsTo s fd ⟨args, kw⟩ binds) (hclo : fd.closure = [])
 (hkind : (binds.all fun y => fd.scope.names.lookup y.1 == some .local || fd.scope.names.lookup y.1 == some .cell) = true)
 (hnd : ((cellsFrom 0 fd.scope.names []).map (·.1)).Nodup)
 (gl : ∃ m, s.heap.Ns fd.globals m) (bu : ∃ m, s.heap.Ns fd.builtins m)
 (hos : ∀ p ∈ os, G p.1 = none ∧ p.1 ≠ fd.globals ∧ p.1 ≠ fd.builtins ∧ ∃ o, s.heap.get? p.1 = some o ∧ p.2.ok G o) (hod : (os.map (·.1)).Nodup)
 (hρ : ∀ h L, h.Ns L (bindL (callEnvC fd L a).kindOf binds fun ux => none) → (∀ n c, (callEnvC fd L a).cells.lookup n = some c → h.IsCell c (bindC (callEnvC fd L a).kindOf binds (fun ux => none) n)) → (∀ b o, s.heap.get? b = some o → h.get? b = some o) → ∀ p ∈ ρ, ∃ v, Ld h (callEnvC fd L a) p.1 v ∧ Rp G p.2 v)
 (hrun : ∀ s₁ L, Fm (os.map (·.1)) s G (callEnvC fd L a) ρ os s₁ G → wpAny (model prog w) (A.deeper (callEnvC fd L a)) (execs body (callEnvC fd L a)) (pK (okR R)) (lH (model prog w) A (callEnvC fd L a) (erR R)) s₁)
 (hco : fd.scope.isCoroutine = false := by rfl) (hgen : fd.scope.isGenerator = false := by rfl) (hk : fd.scope.kind = .function := by rfl) :
 codeAny (model prog w) A (.call (.ref a) ⟨args, kw⟩) R s := by
 refine codeAny_call_function hroom ho hdata hco hgen hbody hcd (hbind _ _ _ _ ?_)
 erw [hclo]
 refine wpAny_newFunctionEnv_cells hk (kindsX hkind _) fun env' he s' x => ?_
 subst he
 refine ⟨hlim.keeps x.toInCall.keep, codeAny_func ?_⟩
 obtain ⟨h₁, tk, e₁, kk⟩ := x.done
 have hL : s.heap.objs.size ≤ s.heap.objs.size := Nat.le_refl _
 have fr : ∀ b, s.heap.objs.size ≤ b → s.heap.get? b = none := fun b hb => cW hb
 have nd : ((cellsFrom (s.heap.objs.size + 1) fd.scope.names []).map (·.1)).Nodup := cellsFrom_names fd.scope.names 0 (s.heap.objs.size + 1) [] [] rfl ▸ hnd
 have hf : Fm (os.map (·.1)) s G (callEnvC fd s.heap.objs.size a) ρ os s' G := by
  have k0 : ∀ b o, s.heap.get? b = some o → s'.heap.get? b = some o := x.toInCall.keep
  have ownfr : ∀ b ∈ own (callEnvC fd s.heap.objs.size a), s.heap.get? b = none := fun b hb => by
   rcases List.mem_cons.mp hb with q | q
   · erw [q]; exact fr _ (Nat.le_refl _)
   · obtain ⟨p, hp, rfl⟩ := List.mem_map.mp q
     exact fr _ (Nat.le_of_lt (x.above p.1 p.2 hp))
  have ne : ∀ {b : Addr} {m}, s.heap.Ns b m → s.heap.objs.size ≠ b := fun {b m} hb q => by
   obtain ⟨o, _, _, e, _⟩ := hb
   rw [← q, fr _ (Nat.le_refl _)] at e; cases e
  refine ⟨⟨⟨h₁, tk, e₁, fun b o ux e => kk b o e⟩, fun ux ux e => e, fun b o e => k0 _ _ (hin b o e), fun ux ux e => .inl e⟩, ⟨hk, ?_, ?_, fun b o e => k0 _ _ (hin b o e), ?_⟩, ⟨⟨_, x.toInCall.ns⟩, ai hin (fr _ (Nat.le_refl _)), ?_, ?_, hk, fun n c hm => ⟨⟨_, x.cell n c (lookup_of_mem_nodup nd hm)⟩, ai hin (fr _ (Nat.le_of_lt (x.above n c hm)))⟩, ?_⟩, fun p hp => ?_, hod, fun b hb => ?_, fun b hb => List.mem_append_right _ hb⟩
  · obtain ⟨m, n⟩ := gl; exact ⟨m, n.keeps k0⟩
  · obtain ⟨m, n⟩ := bu; exact ⟨m, n.keeps k0⟩
  · exact hρ _ _ x.toInCall.ns x.cell k0
  · obtain ⟨m, n⟩ := gl; exact ne n
  · obtain ⟨m, n⟩ := bu; exact ne n
  · exact cT x.apart
  · obtain ⟨g, n1, n2, o, e, q⟩ := hos p hp
    refine ⟨g, fun hm => ?_, o, k0 _ _ e, q⟩
    rcases List.mem_cons.mp hm with z | z
    · exact n1 z
    · rcases List.mem_cons.mp z with z | z
      · exact n2 z
      · rw [ownfr _ z] at e; cases e
  · rcases List.mem_append.mp hb with q | q
    · exact .inr (ownfr b q)
    · exact .inl q
 exact wpAny_mono (hrun s' _ hf) (fun fl s'' h => h) fun ux ux h => h
theorem enterKC {R : Result → Shared → Prop} {a : Addr} {oc : Value} {od : Option Addr} {osl : Array (Option Value)} {fd : FuncData} {body : List Stmt} {args : List Value} {kw : List (Str × Value)} {binds : List (Str × Value)}
 (X : K.In g) (T : Top p loose mean mg mb g) (hroom : A.depth < recursionLimit) (hin : In G s.heap) (hle : Le g.get? G) (ho : K.lookup a = some ⟨oc, od, .func fd, osl⟩) (hcd : codeIn K fd.code fd.qualname = true)
 (hbody : fd.body = .stmts body) (hbind : BindsTo s fd ⟨args, kw⟩ binds) (hclo : fd.closure = [])
 (hkind : (binds.all fun y => fd.scope.names.lookup y.1 == some .local || fd.scope.names.lookup y.1 == some .cell) = true)
 (hnd : ((cellsFrom 0 fd.scope.names []).map (·.1)).Nodup)
 (gl : fd.globals = mainGlobals) (bu : fd.builtins = builtinsNs)
 (hos : ∀ p ∈ os, G p.1 = none ∧ ∃ o, s.heap.get? p.1 = some o ∧ p.2.ok G o) (hod : (os.map (·.1)).Nodup)
 (hρ : ∀ h L, h.Ns L (bindL (callEnvC fd L a).kindOf binds fun ux => none) → (∀ n c, (callEnvC fd L a).cells.lookup n = some c → h.IsCell c (bindC (callEnvC fd L a).kindOf binds (fun ux => none) n)) → h.Ns mainGlobals mg → h.Ns builtinsNs mb → ∀ p ∈ ρ, ∃ v, Ld h (callEnvC fd L a) p.1 v ∧ Rp G p.2 v)
 (hrun : ∀ s₁ L, Fm (os.map (·.1)) s G (callEnvC fd L a) ρ os s₁ G → wpAny (model prog w) (A.deeper (callEnvC fd L a)) (execs body (callEnvC fd L a)) (pK (okR R)) (lH (model prog w) A (callEnvC fd L a) (erR R)) s₁)
 (hco : fd.scope.isCoroutine = false) (hgen : fd.scope.isGenerator = false) (hk : fd.scope.kind = .function) :
 codeAny (model prog w) A (.call (.ref a) ⟨args, kw⟩) R s := by
 have up : ∀ b o, g.get? b = some o → s.heap.get? b = some o := fun b o e => hin b o (hle b o e)
 have ng : ∀ {b : Addr}, G b = none → ∀ {c : Addr} {m}, g.Ns c m → b ≠ c := fun {b} hb {c m} hc q => by
  obtain ⟨o, _, _, e, _⟩ := hc
  rw [q, hle _ _ e] at hb; cases hb
 refine enterC hroom hin (up _ _ (X _ _ ho)) rfl (T.nolimit.keeps up) ((codeRec_of X hcd).keeps up) hbody hbind hclo hkind hnd (gl ▸ ⟨mg, T.g.keeps up⟩) (bu ▸ ⟨mb, T.b.keeps up⟩) (fun p hp => ?_) hod (fun h L hn hc hk => hρ h L hn hc ((T.g.keeps up).keeps hk) ((T.b.keeps up).keeps hk)) hrun hco hgen hk
 obtain ⟨g0, r⟩ := hos p hp
 exact ⟨g0, gl ▸ ng g0 T.g, bu ▸ ng g0 T.b, r⟩
end
section
variable {s s' : Shared} {G G' : Mem} {os os' o2 o2' : List (Addr × Kd)}
theorem Eff.perm (e : Eff os os' s G s' G') (p : os.Perm o2) (q : os'.Perm o2') : Eff o2 o2' s G s' G' := by
 have pm : (os.map (·.1)).Perm (o2.map (·.1)) := p.map _
 have qm : (os'.map (·.1)).Perm (o2'.map (·.1)) := q.map _
 exact ⟨e.K.mono fun b hb => pm.mem_iff.mp hb, ⟨fun x hx => e.H.1 x (q.mem_iff.mpr hx), qm.nodup_iff.mp e.H.2⟩, fun x hx => (e.new x (q.mem_iff.mpr hx)).imp (fun h => pm.mem_iff.mp h) id⟩
theorem pick60 (sc : List Int) (k : Nat) : pick (pick (sc.map D.i) none (some 60) none) (some (k : Int)) none (some 7) = (pick (sc.take 60) (some (k : Int)) none (some 7)).map .i := by
 erw [gA _ (by decide), ← List.map_take, pi]; rfl
noncomputable def cellF (sc : List Int) : D → D
 | .t [.i k, .i b] => .i (b + (eh sc k.toNat).sum)
 | d => d
noncomputable def modF : D → D
 | .i x => .i (x.fmod 1000000)
 | d => d
noncomputable def ysF : D → List D
 | .t [.i k, .i c] => (cK c (k % 2)).map .i
 | _ => []
theorem fX {xs : List Int} {d : D} (h : d ∈ (xs.map D.i).mapIdx fun i d => D.t [.i i, d]) : ∃ (k : Nat) (b : Int), k < xs.length ∧ xs[k]? = some b ∧ d = .t [.i k, .i b] := by
 obtain ⟨k, hk, rfl⟩ := List.mem_mapIdx.mp h
 rw [List.length_map] at hk
 exact ⟨k, xs[k], hk, List.getElem?_eq_getElem hk, by erw [List.getElem_map]⟩
theorem n9 (sc : List Int) : (((base7.map D.i).mapIdx fun i d => D.t [.i i, d]).filter fun ux => true).map (cellF sc) = (aQ sc).map .i := by rfl
noncomputable def fm (sc : List Int) : List (List Nat) := (List.range 7).map (iQ sc)
theorem lG (sc : List Int) : ((((aQ sc).map D.i).mapIdx fun i d => D.t [.i i, d]).flatMap fun d => (ysF d).map id) = (((fm sc).flatten).map fun (n : Nat) => (n : Int)).map .i := by
 have e : (((aQ sc).map D.i).mapIdx fun i d => D.t [.i i, d]) = (List.range 7).map fun (i : Nat) => D.t [.i i, .i ((aQ sc).getD i 0)] := by rfl
 erw [e, List.flatMap_map]
 unfold fm
 rw [← List.flatMap_def, List.map_flatMap, List.map_flatMap]
 refine congrArg List.flatten (List.map_congr_left fun i hi => ?_)
 have h := (ie sc (List.mem_range.mp hi)).2.2
 show (List.map id ((cK ((aQ sc).getD i 0) ((i : Int) % 2)).map D.i)) = _
 erw [h, List.map_id]
theorem qk (sc : List Int) : (((fm sc).flatten).map fun (n : Nat) => (n : Int)).length ≤ 1000000 := by
 erw [List.length_map, List.length_flatten]
 unfold fm
 have h : ∀ l : List Nat, (∀ i ∈ l, i < 7) → ((l.map (iQ sc)).map List.length).sum ≤ 8 * l.length := by
  intro l
  induction l with
  | nil => intro _; exact Nat.le_refl _
  | cons i l ih =>
    intro h
    have h1 := ih fun j hj => h j (.tail _ hj)
    have h2 := (ie sc (h i (.head _))).1.2.1
    erw [List.map_cons, List.map_cons, List.sum_cons, List.length_cons]
    lia
 have := h (List.range 7) fun i hi => List.mem_range.mp hi
 rw [List.length_range] at this
 lia
end
section
variable {prog : Program} {w : World} {A : Around} {wr : List Addr} {s₀ s s' : Shared} {G₀ G G' : Mem} {env : Env} {ρ ρ' : List (Str × D)} {os os' rest : List (Addr × Kd)}
theorem Held.perm (h : Held G s.heap os) (p : os.Perm os') : Held G s.heap os' := ⟨fun x hx => h.1 x (p.mem_iff.mpr hx), (p.map (·.1)).nodup_iff.mp h.2⟩
theorem Fm.heldL {oL : Obj} (f : Fm wr s₀ G₀ env ρ (os ++ rest) s G) (hl : s.heap.get? env.locals = some oL) : Held G s.heap ((env.locals, bP oL) :: os) := by
 have h := f.held.left
 refine ⟨fun p hp => ?_, List.nodup_cons.mpr ⟨fun hm => ?_, h.2⟩⟩
 · rcases List.mem_cons.mp hp with rfl | hp
   · exact ⟨f.O.gn, oL, hl, oL.slots, rfl⟩
   · exact h.1 p hp
 · obtain ⟨p, hp, q⟩ := List.mem_map.mp hm
   exact (f.S p (List.mem_append_left _ hp)).2.1 (by erw [q]; exact .tail _ (.tail _ (.head _)))
theorem nil_own {pos : Pos} {Q E : Value → Shared → Prop} (f : Fm wr s₀ G₀ env ρ os s G) (h : ∀ s' a, Fm wr s₀ G₀ env ρ ((a, .l []) :: os) s' G → a ∉ wr → Q (.ref a) s') : wpAny (model prog w) A (eval (.List [] pos) env) Q E s := by
 refine List_ (spliced_none ?_)
 refine wpAny_newObj_type ?_ (by size_fits)
 obtain ⟨f₁, na⟩ := f.new (tk := s.toks) (k := .l []) (o := { cls := .type "list", data := .seq ([] : List Value).toArray }) (fun b o e => Heap.get?_push_of_some _ e) (aq s.heap) (Heap.get?_push_size _ rfl) ⟨_, 0, rfl, rfl⟩
 exact h _ _ f₁ na
theorem p9 {pos : Pos} {dom : Int → Prop} {ν : Int → D} {Q E : Value → Shared → Prop} (f : Fm wr s₀ G₀ env ρ os s G) (hb : (s.heap.objs.size == sysModules) = false) (h : ∀ s' a, Fm wr s₀ G₀ env ρ ((a, aA prog w dom ν fun ux => False) :: os) s' G → a ∉ wr → (a == sysModules) = false → Q (.ref a) s') : wpAny (model prog w) A (eval (.Dict [] [] pos) env) Q E s := by
 erw [eval_Dict_empty]
 refine wpAny_bind (wpAny_standAt ?_)
 refine wpAny_newObj_type ?_ (by size_fits)
 obtain ⟨o, e, i⟩ := Heap.dictOf_iff.mp (Heap.DictOf.new (knd := intKind prog w) s.heap)
 obtain ⟨f₁, na⟩ := f.new (tk := s.toks) (k := aA prog w dom ν fun ux => False) (fun b o e => Heap.get?_push_of_some _ e) (aq s.heap) e ⟨[], i, (fun p hp => nomatch hp), fun c h => h.elim⟩
 exact h _ _ f₁ na hb
end
theorem qO (sc : List Int) : aQ sc = (fm sc).map fun e => (vat e e.length : Int) := by
 unfold fm
 erw [List.map_map]
 have e : aQ sc = (List.range 7).map fun i => (aQ sc).getD i 0 := by rfl
 erw [e]
 exact List.map_congr_left fun i hi => ((ie sc (List.mem_range.mp hi)).2.1).symm
theorem encs_ok (sc : List Int) : ∀ e ∈ fm sc, kj e := by
 intro e he
 obtain ⟨i, hi, rfl⟩ := List.mem_map.mp he
 exact (ie sc (List.mem_range.mp hi)).1
set_option tactic.hygienic false
noncomputable def recK (qual : Str) : Kd := .p (fun ux o => ∃ (vs : Array Value) (t : Tok), o.data = .fields vs ∧ vs[1]? = some (Value.str qual t)) fun ux ux ux ux h => h
section
variable {prog : Program} {w : World} {A : Around} {wr : List Addr} {s₀ s s' : Shared} {G₀ G G' : Mem} {env : Env} {ρ ρ' ρ₁ : List (Str × D)} {os os' rest : List (Addr × Kd)} {p : Program} {loose : List Str} {mean : ExcName → Option Value} {mg mb : Str → Option Value} {g : Heap}
theorem kr {c P : Addr} {params : Arguments} {body : Expr} {scope : Scope} {clos : List (Str × Addr)} {pos : Pos} {ps : Array Value} {Q E : Value → Shared → Prop} (T : Top p loose mean mg mb g) (C : CodeHd g c P) (hle : Le g.get? G) (f : Fm wr s₀ G₀ env ρ ((P, .o (tabObj ps)) :: os) s G)
 (ht : TriplesOk ps.toList) (hnf : codeAmong pos ps.toList = none) (hcl : closureFor scope env = pure clos) (hge0 : env.globals = mainGlobals) (hcode : env.code = .ref c) (hdef : defaultsOf params env = ([], []))
 (h : ∀ s' a c' ctv, Fm wr s₀ G₀ env ρ ((c', recK (env.qual ++ "<lambda>")) :: (a, .o (kla_obj "<lambda>" (env.qual ++ "<lambda>") params body scope clos ((mg "__name__").getD .none) c' ctv)) :: (P, .o (tabObj (ps ++ #[rawInt pos.line, rawInt pos.col, .ref c']))) :: os) s' G → a ∉ wr → c' ∉ wr → Q (.ref a) s') : wpAny (model prog w) A (eval (.Lambda params body scope pos) env) Q E s := by
 refine jU T C hle f ht hnf hcl hge0 hcode hdef fun s' a c' ctv f' na hr => ?_
 obtain ⟨⟨c₁, o, vs, t, e1, e2, e3, e4⟩, fr, ne⟩ := hr
 cases e1
 have nin : ∀ b, (∃ o, s.heap.get? b = some o) → b ≠ c' := fun b ⟨o, e⟩ q => by rw [q, fr] at e; cases e
 have out := fun b hb => nin b (f.out (b := b) hb).2
 refine h s' a c' ctv (f'.take (k := recK (env.qual ++ "<lambda>")) (o := o) (fun b hb => ?_) (fun q => ?_) (fun q => ?_) ?_ ?_ e2 ⟨vs, t, e3, e4⟩) na (f.notin fr)
 · rcases List.mem_append.mp hb with q | q
   · exact out b (List.mem_append_left _ q)
   · rcases List.mem_cons.mp q with q | q
     · erw [q]; exact Ne.symm ne
     · exact out b (List.mem_append_right _ q)
 · obtain ⟨m, o, _, _, e, _⟩ := f.E.gl
   exact nin _ ⟨o, e⟩ q.symm
 · obtain ⟨m, o, _, _, e, _⟩ := f.E.bu
   exact nin _ ⟨o, e⟩ q.symm
 · exact (f.fresh_far fr).2.2
 · exact ai f.E.sub fr
theorem hZ {h : Heap} {x : Str} {v : Value} {c : Addr} (l : Ld h env x v) (hk : env.kindOf x = some .cell) (hc : env.cells.lookup x = some c) : h.IsCell c (some v) := by
 cases l with
 | cel a b r => rw [hc] at b; cases b; exact r
 | loc a => rw [hk] at a; cases a
 | fre a => rw [hk] at a; cases a
 | glo a => rw [hk] at a; cases a
 | bui a => rw [hk] at a; cases a
 | glN a => rw [hk] at a; cases a
 | buN a => rw [hk] at a; cases a
end
theorem perm_4 {α : Type} (a b c d : α) (l : List α) : (a :: b :: c :: d :: l).Perm (b :: c :: d :: a :: l) := (gB a b c (d :: l)).trans ((List.Perm.swap d a l).cons c |>.cons b)
theorem ku (least : Int) : rng least (least + 7) = (aw least).map .i := by
 unfold rng aw
 erw [show (least + 7 - least).toNat = 7 by lia, List.map_map]; rfl
theorem lJ {least c : Int} (h : c ∈ aw least) : least ≤ c ∧ c ≤ least + 6 := by
 obtain ⟨i, hi, rfl⟩ := List.mem_map.mp h
 have := List.mem_range.mp hi
 lia
theorem lk {par : Nat → Nat} {d w : Nat → Int} (hp : ∀ k ∈ [1, 2, 3, 4, 5], par k < k) : (b9 par d w).length = 7 := by erw [kY hp, d6]
noncomputable def bC (κ : Int → Int) (least k : Int) : Nat := bz (fun i => decide (κ (least + i) < k)) 0 7
theorem gZ (κ : Int → Int) (least : Int) {i : Nat} (h : i < 7) : ((aw least).map κ).getD i 0 = κ (least + i) := by
 unfold aw
 erw [List.map_map, List.getD_eq_getElem?_getD, List.getElem?_map, List.getElem?_range h]; rfl
section
variable {κ : Int → Int} (hm : ∀ c, κ c ≤ κ (c + 1)) (least k : Int)
include hm
theorem cX : bQ (fun i => decide (κ (least + i) < k)) 0 7 :=
 anti_of (κ := fun i => κ (least + i)) (q := fun a => decide (a < k)) (fun i => by have := hm (least + i); rwa [show least + (i : Int) + 1 = least + ((i + 1 : Nat) : Int) by lia] at this) (fun a b h q => decide_eq_true (by have := of_decide_eq_true q; lia)) 7
theorem antiL : bQ (fun i => decide (κ ((aw least).getD i 0) < k)) 0 7 := g5 (cX hm least k) fun i hi => by erw [fk least hi]
theorem antiR : bQ (fun i => decide (κ ((aw least).getD i 0) ≤ k - 1)) 0 7 := g5 (cX hm least k) fun i hi => by erw [fk least hi]; exact decide_eq_decide.mpr (by lia)
theorem antiL2 : bQ (fun i => decide (((aw least).map κ).getD i 0 < k)) 0 7 := g5 (cX hm least k) fun i hi => by erw [gZ κ least hi]
theorem antiR2 : bQ (fun i => decide (((aw least).map κ).getD i 0 ≤ k - 1)) 0 7 := g5 (cX hm least k) fun i hi => by erw [gZ κ least hi]; exact decide_eq_decide.mpr (by lia)
omit hm
theorem pR {lo hi : Nat} (h : hi ≤ 7) : bz (fun i => decide (κ ((aw least).getD i 0) < k)) lo hi = bz (fun i => decide (κ (least + i) < k)) lo hi := je fun i ux hi => by erw [fk least (by lia)]
theorem pw {lo hi : Nat} (h : hi ≤ 7) : bz (fun i => decide (κ ((aw least).getD i 0) ≤ k - 1)) lo hi = bz (fun i => decide (κ (least + i) < k)) lo hi := je fun i ux hi => by erw [fk least (by lia)]; exact decide_eq_decide.mpr (by lia)
theorem placeL2 : bz (fun i => decide (((aw least).map κ).getD i 0 < k)) 0 7 = bC κ least k := je fun i ux hi => by erw [gZ κ least hi]
theorem placeR2 : bz (fun i => decide (((aw least).map κ).getD i 0 ≤ k - 1)) 0 7 = bC κ least k := je fun i ux hi => by erw [gZ κ least hi]; exact decide_eq_decide.mpr (by lia)
end
noncomputable def toldF (total : List Int) : D → D
 | .i c => .t [.i (sgn total c).1, .i (sgn total c).2]
 | d => d
noncomputable def b8 (total : List Int) (least : Int) : List D := (aw least).map fun c => D.t [.i (sgn total c).1, .i (sgn total c).2]
noncomputable def lt0 (k : Int) : D → Bool
 | .t [.i a, .i _] => decide (a < k)
 | _ => false
noncomputable def lt1 (k : Int) : D → Bool
 | .t [.i _, .i b] => decide (b < k)
 | _ => false
noncomputable def fst0 : D → D
 | .t [a, _] => a
 | d => d
noncomputable def snd0 : D → D
 | .t [_, b] => b
 | d => d
theorem e9 {total : List Int} {least : Int} {d : D} (h : d ∈ b8 total least) : ∃ a b, d = .t [.i a, .i b] := by
 obtain ⟨c, _, rfl⟩ := List.mem_map.mp h
 exact ⟨_, _, rfl⟩
theorem pB (total : List Int) (least k : Int) : (((b8 total least).filter (lt0 k)).map id).length = bC (fun c => (sgn total c).1) least k := by
 unfold b8 aw
 erw [List.length_map, List.map_map, io]
 rfl
theorem pX (total : List Int) (least k : Int) : (((b8 total least).filter (lt1 k)).map id).length = bC (fun c => (sgn total c).2) least k := by
 unfold b8 aw
 erw [List.length_map, List.map_map, io]
 rfl
theorem qp (total : List Int) (least : Int) : ((b8 total least).filter fun ux => true).map fst0 = ((aw least).map fun c => (sgn total c).1).map .i := by
 unfold b8
 erw [List.filter_eq_self.mpr (fun ux ux => rfl), List.map_map, List.map_map]; rfl
theorem qr (total : List Int) (least : Int) : ((b8 total least).filter fun ux => true).map snd0 = ((aw least).map fun c => (sgn total c).2).map .i := by
 unfold b8
 erw [List.filter_eq_self.mpr (fun ux ux => rfl), List.map_map, List.map_map]; rfl
theorem pt (total : List Int) (least : Int) : (((aw least).map D.i).filter fun ux => true).map (toldF total) = b8 total least := by
 erw [List.filter_eq_self.mpr (fun ux ux => rfl), List.map_map]; rfl
noncomputable def clampF (lo hi : Int) : D → D
 | .i a => .i (min (max a lo) hi)
 | d => d
set_option tactic.hygienic false
noncomputable abbrev j0 (g : Heap) : List (Str × D) := [(("enumerate":Str), .v (.type "enumerate")), ("iter", .v (.builtin "iter")), ("len", .v (.builtin "len")), ("list", .v (.type "list")), ("range", .v (.type "range")), ("str", .v (.type "str")), ("ValueError", .v (.type "ValueError")), ("sum", .v (.builtin "sum")), ("min", .v (.builtin "min")), ("max", .v (.builtin "max")), ("bisect_left", .g g.get? (.ref 32)), ("bisect_right", .g g.get? (.ref 23)), ("_law_digits", .g g.get? (.ref 68)), ("_law_read", .g g.get? (.ref 75)), ("_law_parts", .g g.get? (.ref 80)), ("_law_document", .g g.get? (.ref 92)), ("_law_polynomial", .g g.get? (.ref 111)), ("_law_signs", .g g.get? (.ref 116))]
noncomputable abbrev rO (g : Heap) (GQ : Mem) (a1 a2 : Addr) (P : List Int) (least : Int) (be fi : Nat) (bk r0 : Addr) : List (Str × D) := (("below":Str), .g GQ (.ref a1)) :: ("upto", .g GQ (.ref a2)) :: ("told", .l (b8 P least)) :: ("behind", .i (be : Int)) :: ("first", .i (fi : Int)) :: ("grid", .l ((aw least).map .i)) :: ("book", .v (.ref bk)) :: ("least", .i least) :: ("good", .b true) :: ("root", .g GQ (.ref r0)) :: j0 g
theorem pp (κ : Int → Int) (least k : Int) : bC κ least k ≤ 7 := by
 unfold bC bz
 have := List.countP_le_length (p := fun i => decide (κ (least + (i : Nat)) < k)) (l := List.range' 0 (7 - 0))
 rw [List.length_range'] at this
 lia
theorem f7 (total : List Int) (least : Int) : (b8 total least).length ≤ 1000000 := by
 unfold b8
 erw [List.length_map, aN]; decide
theorem Fm.memo_dict {prog : Program} {w : World} {wr : List Addr} {s₀ s : Shared} {G₀ G : Mem} {env : Env} {ρ : List (Str × D)} {os : List (Addr × Kd)} {bk : Addr} {dom : Int → Prop} {ν : Int → D} {must : Int → Prop} (f : Fm wr s₀ G₀ env ρ ((bk, aA prog w dom ν must) :: os) s G) : ∃ o, s.heap.get? bk = some o ∧ ∃ es ep, o.data = .dict es ep := by
 obtain ⟨_, _, o, e, q⟩ := f.S _ (.head _)
 obtain ⟨_, ⟨es, ep, _, q, _⟩, _⟩ := q
 exact ⟨o, e, es, ep, q⟩
theorem im {G Gs : Mem} {v : Value} {vs : List Value} (h : RpL G [.g Gs v] vs) : RpL G [.v v] vs := by
 obtain ⟨u, r, rfl, ⟨rfl, _⟩, rfl⟩ := h
 exact ⟨_, _, rfl, rfl, rfl⟩
section
variable {κ : Int → Int} (hm : ∀ c, κ c ≤ κ (c + 1)) (least k : Int)
theorem due7L : ((bz (fun i => decide (κ ((aw least).getD i 0) < k)) 0 (aw least).length : Nat) : Int) = bC κ least k := by
 erw [aN, pR least k (Nat.le_refl 7)]; rfl
theorem due7R : ((bz (fun i => decide (κ ((aw least).getD i 0) ≤ k - 1)) 0 (aw least).length : Nat) : Int) = bC κ least k := by
 erw [aN, pw least k (Nat.le_refl 7)]; rfl
theorem due7L2 : ((bz (fun i => decide (((aw least).map κ).getD i 0 < k)) 0 ((aw least).map κ).length : Nat) : Int) = bC κ least k := by
 erw [List.length_map, aN, placeL2 least k]
theorem due7R2 : ((bz (fun i => decide (((aw least).map κ).getD i 0 ≤ k - 1)) 0 ((aw least).map κ).length : Nat) : Int) = bC κ least k := by
 erw [List.length_map, aN, placeR2 least k]
include hm
theorem dueCL {lo hi : Nat} (h1 : lo ≤ hi) (h2 : hi ≤ 7) : ((bz (fun i => decide (κ ((aw least).getD i 0) < k)) lo hi : Nat) : Int) = min (max (bC κ least k : Int) lo) hi := by
 erw [pR least k h2, pe (cX hm least k) h1 h2]
 show ((min (max (bC κ least k) lo) hi : Nat) : Int) = _
 lia
theorem dueCR {lo hi : Nat} (h1 : lo ≤ hi) (h2 : hi ≤ 7) : ((bz (fun i => decide (κ ((aw least).getD i 0) ≤ k - 1)) lo hi : Nat) : Int) = min (max (bC κ least k : Int) lo) hi := by
 erw [pw least k h2, pe (cX hm least k) h1 h2]
 show ((min (max (bC κ least k) lo) hi : Nat) : Int) = _
 lia
theorem antiL' : bQ (fun i => decide (κ ((aw least).getD i 0) < k)) 0 (aw least).length := by erw [aN]; exact antiL hm least k
theorem antiR' : bQ (fun i => decide (κ ((aw least).getD i 0) ≤ k - 1)) 0 (aw least).length := by erw [aN]; exact antiR hm least k
theorem antiL2' : bQ (fun i => decide (((aw least).map κ).getD i 0 < k)) 0 ((aw least).map κ).length := by erw [List.length_map, aN]; exact antiL2 hm least k
theorem antiR2' : bQ (fun i => decide (((aw least).map κ).getD i 0 ≤ k - 1)) 0 ((aw least).map κ).length := by erw [List.length_map, aN]; exact antiR2 hm least k
theorem antiLC {lo hi : Nat} (h2 : hi ≤ 7) : bQ (fun i => decide (κ ((aw least).getD i 0) < k)) lo hi := fun i j h1 h3 h4 h5 => antiL hm least k i j (Nat.zero_le _) h3 (by lia) h5
theorem antiRC {lo hi : Nat} (h2 : hi ≤ 7) : bQ (fun i => decide (κ ((aw least).getD i 0) ≤ k - 1)) lo hi := fun i j h1 h3 h4 h5 => antiR hm least k i j (Nat.zero_le _) h3 (by lia) h5
end
set_option maxRecDepth 100000 in
set_option maxHeartbeats 8000000 in
theorem qN {w' : World} {A : Around} {g : Heap} {p : Program} {loose : List Str} {mean : ExcName → Option Value} {mg mb : Str → Option Value} (X : (hd.heap_39 w'.params).In g) (T : Top p loose mean mg mb g) (hA : A.handled = none) (hroom : A.depth + 20 < recursionLimit) (hU : A.units + 120 < cLine)
 {oc : Value} {od : Option Addr} {osl : Array (Option Value)} {fd : FuncData} {body : List Stmt} (hfd : g.get? 121 = some ⟨oc, od, .func fd, osl⟩) (hbody : fd.body = .stmts body)
 {Gt GQ : Mem} {par : Nat → Nat} {d w : Nat → Int} {odd : Nat → Bool} {fs Ls ats : Nat → Addr} (hT : TreeF Challenge.rw_wb0032_01.row.prog w' Gt par d w odd fs Ls ats) (hp : ∀ k, 1 ≤ k → k < 6 → par k < k) (hw : ∀ k, Nb (w k ^ 2) 4) (hw2 : ∀ k, Nb (w k) 4) (hnd : ∀ k {c : Int}, -12 ≤ c ∧ c ≤ 12 → Nb (d k - c) 8) (hlt : Le Gt GQ)
 {P : List Int} {least : Int} {be fi : Nat} (hm0 : ∀ c, (sgn P c).1 ≤ (sgn P (c + 1)).1) (hm1 : ∀ c, (sgn P c).2 ≤ (sgn P (c + 1)).2) (hc1 : ∀ c, cnt par d w c = sgn P c) (hlst : -6 ≤ least ∧ least ≤ 0) (hfi : fi < 4) (hbe : 4 ≤ be ∧ be ≤ 7)
 {bk a1 a2 c1 c2 cb cr : Addr} (hbk : (bk == sysModules) = false) {nm1 nm2 q1 q2 : Str} {pm1 pm2 tv1 tv2 : Value} {kk1 kk2 : Nat} {p1 p2 p3 p4 p5 p6 p7 pc r1 r2 r3 r4 r5 r6 r7 rc : Pos}
 (hf1 : GQ a1 = some (kla_obj nm1 q1 (ge pc) (jG (0 : Nat) kk1 p1 p2 p3 p4 p5 p6 p7) keyScope [(("root":Str), cr), (("book":Str), cb)] pm1 c1 tv1)) (hf2 : GQ a2 = some (kla_obj nm2 q2 (ge rc) (jG (1 : Nat) kk2 r1 r2 r3 r4 r5 r6 r7) keyScope [(("root":Str), cr), (("book":Str), cb)] pm2 c2 tv2))
 (hr1 : ∃ o vs t, GQ c1 = some o ∧ o.data = .fields vs ∧ vs[1]? = some (Value.str q1 t)) (hr2 : ∃ o vs t, GQ c2 = some o ∧ o.data = .fields vs ∧ vs[1]? = some (Value.str q2 t))
 {L : Addr} (hcb : (callEnvC fd L 121).cells.lookup ("book":Str) = some cb) (hcr : (callEnvC fd L 121).cells.lookup ("root":Str) = some cr)
 {wr : List Addr} {s₀ s : Shared} {G₀ G : Mem} {Q : Flow → Shared → Prop} {E : Value → Shared → Prop} (f : Fm wr s₀ G₀ (callEnvC fd L 121) (rO g GQ a1 a2 P least be fi bk (fs 0)) [(bk, aA Challenge.rw_wb0032_01.row.prog w' (fun c => -12 ≤ c ∧ c ≤ 12) (nuD par d w) fun ux => False), (82, ay 86 10), (89, av), (118, av)] s G)
 (h : ∀ s' G', Fm wr s₀ G₀ (callEnvC fd L 121) (rO g GQ a1 a2 P least be fi bk (fs 0)) [(bk, aA Challenge.rw_wb0032_01.row.prog w' (fun c => -12 ≤ c ∧ c ≤ 12) (nuD par d w) fun ux => False), (82, ay 86 10), (89, av), (118, av)] s' G' → wpAny (model Challenge.rw_wb0032_01.row.prog w') (A.deeper (callEnvC fd L 121)) (execs (body.drop 11) (callEnvC fd L 121)) Q E s') :
 wpAny (model Challenge.rw_wb0032_01.row.prog w') (A.deeper (callEnvC fd L 121)) (execs (body.drop 10) (callEnvC fd L 121)) Q E s := by
 revert X
 k_fill
 intro X
 have hfd' := X 121 _ (by k_is)
 have hh := hfd'.symm.trans hfd
 clear hfd' hfd
 injection hh with hh
 injection hh with e1 e2 e3 e4
 injection e3 with e3
 subst e3
 injection hbody with hbody
 subst hbody
 clear e1 e2 e4
 have h32 := X 32 _ (by k_is)
 have h23 := X 23 _ (by k_is)
 have hdm : ∀ c : Int, (-12 ≤ c ∧ c ≤ 12) → (-1000 ≤ c ∧ c < -1000 + (2000 : Nat)) ∧ ∀ v, Nb (d v - c) 8 := fun c h => ⟨by lia, fun v => hnd v h⟩
 have hg : ∀ c ∈ aw least, -12 ≤ c ∧ c ≤ 12 := fun c hc => by have := lJ hc; lia
 have hroom2 : (A.deeper f.envOf).depth + 10 < recursionLimit := by show A.depth + 1 + 10 < _; lia
 have hU2 : (A.deeper f.envOf).units + 80 < cLine := by show A.units + 3 + 80 < _; lia
 have key1 : ∀ {wr' : List Addr} {s₀' s' : Shared} {G₀' G' : Mem} {ρ : List (Str × D)} {rest : List (Addr × Kd)}, Fm wr' s₀' G₀' f.envOf ρ ((bk, aA Challenge.rw_wb0032_01.row.prog w' (fun c => -12 ≤ c ∧ c ≤ 12) (nuD par d w) fun ux => False) :: rest) s' G' → (("below":Str), .g GQ (.ref a1)) ∈ ρ → (("book":Str), .v (.ref bk)) ∈ ρ → (("root":Str), .g GQ (.ref (fs 0))) ∈ ρ → (("bisect_left":Str), .g g.get? (.ref 32)) ∈ ρ → jT (model Challenge.rw_wb0032_01.row.prog w') (A.deeper f.envOf) G' [(bk, aA Challenge.rw_wb0032_01.row.prog w' (fun c => -12 ≤ c ∧ c ≤ 12) (nuD par d w) fun ux => False)] a1 (fun c => (sgn P c).1) (fun c => -12 ≤ c ∧ c ≤ 12) s'.heap := by
  intro wr' s₀' s' G₀' G' ρ rest f m1 m2 m3 m4
  have l1 : Le GQ G' := f.leOf m1
  obtain ⟨v1, b1, y1⟩ := f.E.at' _ m2
  obtain ⟨v3, b3, y3⟩ := f.E.at' _ m3
  obtain rfl : v1 = .ref bk := y1
  obtain rfl : v3 = .ref (fs 0) := y3.1
  obtain ⟨o, vs, t, e1, e2, e3⟩ := hr1
  exact nF X T hroom2 hU2 hT hp hw hw2 hdm hbk (f.leOf m4) (hlt.tr l1) 0 (f.E.sub _ _ (l1 _ _ hf1)) ⟨_, o, vs, t, rfl, f.E.sub _ _ (l1 _ _ e1), e2, e3⟩ (hZ b1 rfl hcb) (hZ b3 rfl hcr) f.memo_dict (fun c => (sgn P c).1) fun c => .inl ⟨rfl, by erw [hc1]⟩
 have key2 : ∀ {wr' : List Addr} {s₀' s' : Shared} {G₀' G' : Mem} {ρ : List (Str × D)} {rest : List (Addr × Kd)}, Fm wr' s₀' G₀' f.envOf ρ ((bk, aA Challenge.rw_wb0032_01.row.prog w' (fun c => -12 ≤ c ∧ c ≤ 12) (nuD par d w) fun ux => False) :: rest) s' G' → (("upto":Str), .g GQ (.ref a2)) ∈ ρ → (("book":Str), .v (.ref bk)) ∈ ρ → (("root":Str), .g GQ (.ref (fs 0))) ∈ ρ → (("bisect_left":Str), .g g.get? (.ref 32)) ∈ ρ → jT (model Challenge.rw_wb0032_01.row.prog w') (A.deeper f.envOf) G' [(bk, aA Challenge.rw_wb0032_01.row.prog w' (fun c => -12 ≤ c ∧ c ≤ 12) (nuD par d w) fun ux => False)] a2 (fun c => (sgn P c).2) (fun c => -12 ≤ c ∧ c ≤ 12) s'.heap := by
  intro wr' s₀' s' G₀' G' ρ rest f m1 m2 m3 m4
  have l1 : Le GQ G' := f.leOf m1
  obtain ⟨v1, b1, y1⟩ := f.E.at' _ m2
  obtain ⟨v3, b3, y3⟩ := f.E.at' _ m3
  obtain rfl : v1 = .ref bk := y1
  obtain rfl : v3 = .ref (fs 0) := y3.1
  obtain ⟨o, vs, t, e1, e2, e3⟩ := hr2
  exact nF X T hroom2 hU2 hT hp hw hw2 hdm hbk (f.leOf m4) (hlt.tr l1) 1 (f.E.sub _ _ (l1 _ _ hf2)) ⟨_, o, vs, t, rfl, f.E.sub _ _ (l1 _ _ e1), e2, e3⟩ (hZ b1 rfl hcb) (hZ b3 rfl hcr) f.memo_dict (fun c => (sgn P c).2) fun c => .inr ⟨rfl, by erw [hc1]⟩
 refine dh (xs := rng 1 7) (fun ux => (rO g GQ a1 a2 P least be fi bk (fs 0))) (fun ux => [(bk, aA Challenge.rw_wb0032_01.row.prog w' (fun c => -12 ≤ c ∧ c ≤ 12) (nuD par d w) fun ux => False), (82, ay 86 10), (89, av), (118, av)]) f (aH (m6 (m6 m2)) (ab ad (ab ad ae)) (iS (by exact hA) (by decide) (by decide) (by decide) (by decide))) ?turn ?hend
 case hend =>
  intro s' G' E' f
  exact wpAny_execs_nil (h s' G' f)
 case turn =>
  intro i e hdi
  have := dZ hdi
  subst this
  refine ⟨_, bS ar af, fun wr s₀ G₀ s G E' Qt kQt f => ?_⟩
  clear hdi
  generalize (1 : Int) + i = kk at f
  refine ao (d := .l (([(bC (fun c => (sgn P c).2) least kk : Int), (bC (fun c => (sgn P c).1) least kk : Int)] : List Int).map .i)) f (ah (bc (ab (aK (m6 (m6 m1)) (ab (bj (xs := b8 P least) id (lt1 kk) [(("k":Str), .i kk)] (fun d => [(("one":Str), d), ("k", .i kk)]) (bg (by exact hA) (aa m3)) rfl (by decide +kernel) rfl (by decide +kernel) ?hcap1 ?has1 ?ht1 ?he1 (f7 P least)) ae) (cP (n := (bC (fun c => (sgn P c).2) least kk : Int)) ?hl1 ?hn1)) (ab (aK (m6 (m6 m1)) (ab (bj (xs := b8 P least) id (lt0 kk) [(("k":Str), .i kk)] (fun d => [(("one":Str), d), ("k", .i kk)]) (bg (by exact hA) (aa m3)) rfl (by decide +kernel) rfl (by decide +kernel) ?hcap2 ?has2 ?ht2 ?he2 (f7 P least)) ae) (cP (n := (bC (fun c => (sgn P c).1) least kk : Int)) ?hl2 ?hn2)) ae)) (Nat.le_of_ble_eq_true rfl)) rfl) ar af fun s₂ G₂ f₂ => ?_
  case hcap1 => exact fun C h G hE => aV hE rfl rfl rfl cv
  case hcap2 => exact fun C h G hE => aV hE rfl rfl rfl cv
  case has1 => exact fun C d hd => ax rfl af
  case has2 => exact fun C d hd => ax rfl af
  case ht1 =>
   intro C d hd
   obtain ⟨a, b, rfl⟩ := e9 hd
   exact dO (aj (au (k := 1) (d := .i b) (aa m0) ad (by decide) (by decide) rfl) (aa m1) bI)
  case ht2 =>
   intro C d hd
   obtain ⟨a, b, rfl⟩ := e9 hd
   exact dO (aj (au (k := 0) (d := .i a) (aa m0) ad (by decide) (by decide) rfl) (aa m1) bI)
  case he1 => exact fun C d hd ux => ah (d := d) (aa m0) rfl
  case he2 => exact fun C d hd ux => ah (d := d) (aa m0) rfl
  case hl1 => erw [pX]
  case hl2 => erw [pB]
  case hn1 => have := pp (fun c => (sgn P c).2) least kk; lia
  case hn2 => have := pp (fun c => (sgn P c).1) least kk; lia
  refine jS (c := false) (os₁ := [(bk, aA Challenge.rw_wb0032_01.row.prog w' (fun c => -12 ≤ c ∧ c ≤ 12) (nuD par d w) fun ux => False), (82, ay 86 10), (89, av), (118, av)]) f₂ (i7 (fw (cD (d' := .l (([(bC (fun c => (sgn P c).2) least kk : Int), (bC (fun c => (sgn P c).1) least kk : Int)] : List Int).map .i)) (jq (os₁ := [(bk, aA Challenge.rw_wb0032_01.row.prog w' (fun c => -12 ≤ c ∧ c ≤ 12) (nuD par d w) fun ux => False), (82, ay 86 10), (89, av), (118, av)]) (cD (d' := .i (bC (fun c => (sgn P c).2) least kk : Int)) (cY (rest := [(82, ay 86 10), (89, av), (118, av)]) (os := [(bk, aA Challenge.rw_wb0032_01.row.prog w' (fun c => -12 ≤ c ∧ c ≤ 12) (nuD par d w) fun ux => False)]) (os' := [(bk, aA Challenge.rw_wb0032_01.row.prog w' (fun c => -12 ≤ c ∧ c ≤ 12) (nuD par d w) fun ux => False)]) (kn := [("key":Str)]) (kds := [.g GQ (.ref a2)]) (a := 32) (dF := .g g.get? (.ref 32)) (m6 (m6 (m6 m4))) (fun ux ux h => h.1) ?hoL2 (ab (aa (m6 m1)) (ab (aa m1) ae)) (bV (aa m3) bl) ?hcL2 (fun ux h => h)) (congrArg D.i (due7L least kk))) (cD (d' := .i (bC (fun c => (sgn P c).1) least kk : Int)) (cY (rest := [(82, ay 86 10), (89, av), (118, av)]) (os := [(bk, aA Challenge.rw_wb0032_01.row.prog w' (fun c => -12 ≤ c ∧ c ≤ 12) (nuD par d w) fun ux => False)]) (os' := [(bk, aA Challenge.rw_wb0032_01.row.prog w' (fun c => -12 ≤ c ∧ c ≤ 12) (nuD par d w) fun ux => False)]) (kn := [("key":Str)]) (kds := [.g GQ (.ref a1)]) (a := 23) (dF := .g g.get? (.ref 23)) (m6 (m6 (m6 m5))) (fun ux ux h => h.1) ?hoR2 (ab (aa (m6 m1)) (ab (ag (aa m1) ad bL) ae)) (bV (aa m2) bl) ?hcR2 (fun ux h => h)) (congrArg D.i (due7R least kk)))) rfl) (aO (aa m0)) (cM (by show A.units + 3 + 64 < cLine; lia))) (by erw [beq_self_eq_true]; rfl)) (fun ux ux ux ux h => by cases h) fun sx2 Gx2 fx2 ux ux => wpAny_execs_nil ?_
  case hoL2 => exact fun s G f => ⟨_, _, f.E.sub _ _ (f.leOf (x := "bisect_left") (u := .ref 32) (Gs := g.get?) (m6 (m6 (m6 m4))) _ _ h32), rfl⟩
  case hoR2 => exact fun s G f => ⟨_, _, f.E.sub _ _ (f.leOf (x := "bisect_right") (u := .ref 23) (Gs := g.get?) (m6 (m6 (m6 m5))) _ _ h23), rfl⟩
  case hcL2 =>
   intro s G vs ks Q E f rv rk hq
   exact qw X T (aw least) kk (κ := (fun c => (sgn P c).2)) (os := [(bk, aA Challenge.rw_wb0032_01.row.prog w' (fun c => -12 ≤ c ∧ c ≤ 12) (nuD par d w) fun ux => False)]) (dom := fun c => -12 ≤ c ∧ c ≤ 12) (by exact hg) (by erw [aN]; decide) (antiL' hm1 least kk) (by exact hA) (by show A.depth + 1 < _; lia) f.E.sub (f.leOf (x := "bisect_left") (m6 (m6 (m6 m4)))) rv (im rk) (Held.left (os := [(bk, aA Challenge.rw_wb0032_01.row.prog w' (fun c => -12 ≤ c ∧ c ≤ 12) (nuD par d w) fun ux => False)]) f.held) (key2 f m3 (m6 m2) (m6 m5) (m6 (m6 (m6 m4)))) hq
  case hcR2 =>
   intro s G vs ks Q E f rv rk hq
   exact pL X T (aw least) (kk - 1) (κ := (fun c => (sgn P c).1)) (os := [(bk, aA Challenge.rw_wb0032_01.row.prog w' (fun c => -12 ≤ c ∧ c ≤ 12) (nuD par d w) fun ux => False)]) (dom := fun c => -12 ≤ c ∧ c ≤ 12) (by exact hg) (by erw [aN]; decide) (antiR' hm0 least kk) (by exact hA) (by show A.depth + 1 < _; lia) f.E.sub (f.leOf (x := "bisect_left") (m6 (m6 (m6 m4)))) rv (im rk) (Held.left (os := [(bk, aA Challenge.rw_wb0032_01.row.prog w' (fun c => -12 ≤ c ∧ c ≤ 12) (nuD par d w) fun ux => False)]) f.held) (key1 f m2 (m6 m2) (m6 m5) (m6 (m6 (m6 m4)))) hq
  refine bB (c := false) fx2 (aX (aj (ah (d' := .l (([(bC (fun c => (sgn P c).2) least kk : Int), (bC (fun c => (sgn P c).1) least kk : Int)] : List Int).map .i)) (bc (ab (ah (d' := .i (bC (fun c => (sgn P c).2) least kk : Int)) (cg (m6 (m6 (m6 m4))) h32 rfl (ab (ah (d' := .l (((aw least).map (fun c => (sgn P c).2)).map .i)) (bj (xs := b8 P least) snd0 (fun ux => true) [] (fun d => [(("one":Str), d)]) (bg (by exact hA) (aa m4)) rfl (by decide +kernel) rfl (by decide +kernel) ?hcap3 ?has3 (fun C d ux => bD) ?he3 (f7 P least)) (congrArg D.l (qr P least))) (ab (aa m1) ae)) ?hc3) (congrArg D.i (due7L2 least kk))) (ab (ah (d' := .i (bC (fun c => (sgn P c).1) least kk : Int)) (cg (m6 (m6 (m6 m5))) h23 rfl (ab (ah (d' := .l (((aw least).map (fun c => (sgn P c).1)).map .i)) (bj (xs := b8 P least) fst0 (fun ux => true) [] (fun d => [(("one":Str), d)]) (bg (by exact hA) (aa m4)) rfl (by decide +kernel) rfl (by decide +kernel) ?hcap4 ?has4 (fun C d ux => bD) ?he4 (f7 P least)) (congrArg D.l (qp P least))) (ab (ag (aa m1) ad bL) ae)) ?hc4) (congrArg D.i (due7R2 least kk))) ae)) (Nat.le_of_ble_eq_true rfl)) rfl) (aa m0) (cM (by show A.units + 3 + 64 < cLine; lia))) (by erw [beq_self_eq_true]; rfl)) (fun ux ux ux h => by cases h) fun sx3 Gx3 fx3 ux => wpAny_execs_nil ?_
  case hcap3 => exact fun C h G hE => aV hE rfl rfl rfl cv
  case has3 => exact fun C d hd => ax rfl af
  case he3 =>
   intro C d hd _
   obtain ⟨a, b, rfl⟩ := e9 hd
   exact au (k := 1) (d := .i b) (aa m0) ad (by decide) (by decide) rfl
  case hcap4 => exact fun C h G hE => aV hE rfl rfl rfl cv
  case has4 => exact fun C d hd => ax rfl af
  case he4 =>
   intro C d hd _
   obtain ⟨a, b, rfl⟩ := e9 hd
   exact au (k := 0) (d := .i a) (aa m0) ad (by decide) (by decide) rfl
  case hc3 => exact fun s G Q E vs hin hle rv hq => ct_bisl X T ((aw least).map (fun c => (sgn P c).2)) kk (by erw [List.length_map, aN]; decide) (antiL2' hm1 least kk) (by exact hA) (by show A.depth + 1 < _; lia) hin hle rv hq
  case hc4 => exact fun s G Q E vs hin hle rv hq => ct_bisr X T ((aw least).map (fun c => (sgn P c).1)) (kk - 1) (by erw [List.length_map, aN]; decide) (antiR2' hm0 least kk) (by exact hA) (by show A.depth + 1 < _; lia) hin hle rv hq
  refine jS (c := false) (os₁ := [(bk, aA Challenge.rw_wb0032_01.row.prog w' (fun c => -12 ≤ c ∧ c ≤ 12) (nuD par d w) fun ux => False), (82, ay 86 10), (89, av), (118, av)]) fx3 (i7 (fw (cD (d' := .l (([min (max (bC (fun c => (sgn P c).2) least kk : Int) fi) be, min (max (bC (fun c => (sgn P c).1) least kk : Int) fi) be] : List Int).map .i)) (jq (os₁ := [(bk, aA Challenge.rw_wb0032_01.row.prog w' (fun c => -12 ≤ c ∧ c ≤ 12) (nuD par d w) fun ux => False), (82, ay 86 10), (89, av), (118, av)]) (cD (d' := .i (min (max (bC (fun c => (sgn P c).2) least kk : Int) fi) be)) (cY (rest := [(82, ay 86 10), (89, av), (118, av)]) (os := [(bk, aA Challenge.rw_wb0032_01.row.prog w' (fun c => -12 ≤ c ∧ c ≤ 12) (nuD par d w) fun ux => False)]) (os' := [(bk, aA Challenge.rw_wb0032_01.row.prog w' (fun c => -12 ≤ c ∧ c ≤ 12) (nuD par d w) fun ux => False)]) (kn := [("key":Str)]) (kds := [.g GQ (.ref a2)]) (a := 32) (dF := .g g.get? (.ref 32)) (m6 (m6 (m6 m4))) (fun ux ux h => h.1) ?hoL4 (ab (aa (m6 m1)) (ab (aa m1) (ab (aa (m6 m0)) (ab (aa m5) ae)))) (bV (aa m3) bl) ?hcL4 (fun ux h => h)) (congrArg D.i (dueCL hm1 least kk (show fi ≤ be by lia) hbe.2))) (cD (d' := .i (min (max (bC (fun c => (sgn P c).1) least kk : Int) fi) be)) (cY (rest := [(82, ay 86 10), (89, av), (118, av)]) (os := [(bk, aA Challenge.rw_wb0032_01.row.prog w' (fun c => -12 ≤ c ∧ c ≤ 12) (nuD par d w) fun ux => False)]) (os' := [(bk, aA Challenge.rw_wb0032_01.row.prog w' (fun c => -12 ≤ c ∧ c ≤ 12) (nuD par d w) fun ux => False)]) (kn := [("key":Str)]) (kds := [.g GQ (.ref a1)]) (a := 23) (dF := .g g.get? (.ref 23)) (m6 (m6 (m6 m5))) (fun ux ux h => h.1) ?hoR4 (ab (aa (m6 m1)) (ab (ag (aa m1) ad bL) (ab (aa (m6 m0)) (ab (aa m5) ae)))) (bV (aa m2) bl) ?hcR4 (fun ux h => h)) (congrArg D.i (dueCR hm0 least kk (show fi ≤ be by lia) hbe.2)))) rfl) (aO (ah (d' := .l (([min (max (bC (fun c => (sgn P c).2) least kk : Int) fi) be, min (max (bC (fun c => (sgn P c).1) least kk : Int) fi) be] : List Int).map .i)) (bj (xs := ([(bC (fun c => (sgn P c).2) least kk : Int), (bC (fun c => (sgn P c).1) least kk : Int)] : List Int).map .i) (clampF fi be) (fun ux => true) [(("behind":Str), .i (be : Int)), ("first", .i (fi : Int)), ("min", .v (.builtin "min")), ("max", .v (.builtin "max"))] (fun d => [(("due":Str), d), ("behind", .i (be : Int)), ("first", .i (fi : Int)), ("min", .v (.builtin "min")), ("max", .v (.builtin "max"))]) (bg (by exact hA) (aa m0)) rfl (by decide +kernel) rfl (by decide +kernel) ?hcap5 ?has5 (fun C d ux => bD) ?he5 (Nat.le_of_ble_eq_true rfl)) rfl)) (cM (by show A.units + 3 + 64 < cLine; lia))) (by erw [beq_self_eq_true]; rfl)) (fun ux ux ux ux h => by cases h) fun sx4 Gx4 fx4 ux ux => wpAny_execs_nil ?_
  case hoL4 => exact fun s G f => ⟨_, _, f.E.sub _ _ (f.leOf (x := "bisect_left") (u := .ref 32) (Gs := g.get?) (m6 (m6 (m6 m4))) _ _ h32), rfl⟩
  case hoR4 => exact fun s G f => ⟨_, _, f.E.sub _ _ (f.leOf (x := "bisect_right") (u := .ref 23) (Gs := g.get?) (m6 (m6 (m6 m5))) _ _ h23), rfl⟩
  case hcL4 =>
   intro s G vs ks Q E f rv rk hq
   exact oR X T (aw least) kk (κ := (fun c => (sgn P c).2)) fi be (show fi ≤ be by lia) (by erw [aN]; exact hbe.2) (os := [(bk, aA Challenge.rw_wb0032_01.row.prog w' (fun c => -12 ≤ c ∧ c ≤ 12) (nuD par d w) fun ux => False)]) (dom := fun c => -12 ≤ c ∧ c ≤ 12) (by exact hg) (by erw [aN]; decide) (antiLC hm1 least kk hbe.2) (by exact hA) (by show A.depth + 1 < _; lia) f.E.sub (f.leOf (x := "bisect_left") (m6 (m6 (m6 m4)))) rv (im rk) (Held.left (os := [(bk, aA Challenge.rw_wb0032_01.row.prog w' (fun c => -12 ≤ c ∧ c ≤ 12) (nuD par d w) fun ux => False)]) f.held) (key2 f m3 (m6 m2) (m6 m5) (m6 (m6 (m6 m4)))) hq
  case hcR4 =>
   intro s G vs ks Q E f rv rk hq
   exact n5 X T (aw least) (kk - 1) (κ := (fun c => (sgn P c).1)) fi be (show fi ≤ be by lia) (by erw [aN]; exact hbe.2) (os := [(bk, aA Challenge.rw_wb0032_01.row.prog w' (fun c => -12 ≤ c ∧ c ≤ 12) (nuD par d w) fun ux => False)]) (dom := fun c => -12 ≤ c ∧ c ≤ 12) (by exact hg) (by erw [aN]; decide) (antiRC hm0 least kk hbe.2) (by exact hA) (by show A.depth + 1 < _; lia) f.E.sub (f.leOf (x := "bisect_left") (m6 (m6 (m6 m4)))) rv (im rk) (Held.left (os := [(bk, aA Challenge.rw_wb0032_01.row.prog w' (fun c => -12 ≤ c ∧ c ≤ 12) (nuD par d w) fun ux => False)]) f.held) (key1 f m2 (m6 m2) (m6 m5) (m6 (m6 (m6 m4)))) hq
  case hcap5 => exact fun C h G hE => aV hE rfl rfl rfl cv
  case has5 => exact fun C d hd => ax rfl af
  case he5 =>
   intro C d hd _
   obtain ⟨x, _, rfl⟩ := List.mem_map.mp hd
   exact aK m3 (ab (aK m4 (ab (aa m0) (ab (aa m2) ae)) (ml (by exact hA))) (ab (aa m1) ae)) (cl_min (by exact hA))
  exact wpAny_execs_nil (kQt _ _ (fx4.say (ρ' := (rO g GQ a1 a2 P least be fi bk (fs 0))) eS))
set_option tactic.hygienic false
section
variable {prog : Program} {w : World} {A : Around} {M : Model} {wr : List Addr} {s₀ s s' : Shared} {G₀ G G' Gs : Mem} {env : Env} {ρ ρ' : List (Str × D)} {os os' : List (Addr × Kd)}
theorem Fm.goes {x : Str} {pos : Pos} {Q : Unit → Shared → Prop} {E : Value → Shared → Prop} (f : Fm wr s₀ G₀ env ρ os s G) (hk : env.kindOf x = some .local) (hx : ∀ p ∈ ρ, p.1 ≠ x)
 (hQ : ∀ s', Fm wr s₀ G₀ env ρ os s' G → Q () s') : wpAny M A (do bindName env x .none; unbindBehindTheSuite env x pos) Q E s := by
 obtain ⟨m, hn⟩ := f.O.ns
 have hp : (env.scope.kind == .class || (env.scope.kind == .module && env.locals != env.globals)) = false := by erw [f.O.fn]; rfl
 refine wpAny_nameGoes_keeps hk hn hp fun h' v hn' hsb => hQ _ ?_
 have out := f.out (List.mem_append_left _ (List.Mem.head _))
 have K : KpB [env.locals] s G { s with heap := h', toks := s.toks + 1 } G := KpB.same f.E.sub hsb out.1
 have cellk : ∀ {c : Addr} {u}, s.heap.IsCell c u → h'.IsCell c u := fun ⟨o, e, q⟩ => ⟨o, hsb.extBut _ _ (Ne.symm (aE hn ⟨o, e, q⟩)) e, q⟩
 refine f.turned (K.mono fun b hb => by erw [List.mem_singleton.mp hb]; exact List.mem_append_left _ (.head _)) ⟨f.E.fn, ?_, ?_, K.sub, fun p hp' => ?_⟩ ⟨⟨_, hn'⟩, f.O.gn, f.O.gl, f.O.bu, f.O.fn, fun y c hy => ⟨let ⟨v, h⟩ := (f.O.cel y c hy).1; ⟨v, cellk h⟩, (f.O.cel y c hy).2⟩, f.O.ap⟩ (fun p hp => ?_) f.N (fun p hp => .inl (List.mem_map_of_mem hp)) f.W
 · obtain ⟨mg, ng⟩ := f.E.gl
   exact ⟨mg, ng.sameBut hsb (Ne.symm f.O.gl)⟩
 · obtain ⟨mg, ng⟩ := f.E.bu
   exact ⟨mg, ng.sameBut hsb (Ne.symm f.O.bu)⟩
 · obtain ⟨u, hl, hu⟩ := f.E.at' p hp'
   refine ⟨u, ?_, hu⟩
   cases hl with
   | loc a b c =>
     have := gG hn b
     subst this
     exact .loc a hn' (by erw [if_neg (hx p hp')]; exact c)
   | cel a b c => exact .cel a b (cellk c)
   | fre a b c n => exact .fre a b (cellk c) n
   | glo a b c => exact .glo a (b.sameBut hsb (Ne.symm f.O.gl)) c
   | bui a b c d e => exact .bui a (b.sameBut hsb (Ne.symm f.O.gl)) c (d.sameBut hsb (Ne.symm f.O.bu)) e
   | glN a b c => exact .glN a (b.sameBut hsb (Ne.symm f.O.gl)) c
   | buN a b c d e => exact .buN a (b.sameBut hsb (Ne.symm f.O.gl)) c (d.sameBut hsb (Ne.symm f.O.bu)) e
 · obtain ⟨g, no, o, e, q⟩ := f.S p hp
   exact ⟨g, no, o, hsb.extBut _ _ (fun z => no (.tail _ (.tail _ (z ▸ .head _)))) e, q⟩
theorem oP {e t : Addr} {oe : Obj} {vs : Array Value} {m : Str} {tk : Tok} (hu : A.units + 2 < cLine) (he : Gs e = some oe) (hc : oe.cls = .type "ValueError") (hd : oe.data = .fields vs) (h0 : vs[0]? = some (.ref t)) (ht : Gs t = some { cls := .type "tuple", data := .seq #[.str m tk] }) :
 Cl (model prog w) A (.type "str") [.g Gs (.ref e)] (.s m) := by
 rintro s G Q E us hG ⟨v, r, rfl, ⟨rfl, le⟩, rfl⟩ hQ
 exact P.str_of_exc_one PySem.F.excStr_ValueError hu ⟨oe, vs, hG _ _ (le _ _ he), hc, hd, h0⟩ ⟨_, 0, hG _ _ (le _ _ ht), rfl, rfl⟩ (hQ _ _ _ (Kp.rf hG) ⟨_, rfl⟩)
theorem Fm.caught {Ls : List Addr} {e t : Addr} {m : Str} {tk : Tok} {fl : Value} {h' : Heap} {n : Nat} (f : Fm wr s₀ G₀ env ρ os s G) (th : Thr Ls s.heap e t { cls := .type "tuple", data := .seq #[.str m tk] } "ValueError" fl h') (f' : Fm wr s₀ G₀ env ρ os { s with heap := h', toks := n } G) :
 ∃ GP oe vs, Fm wr s₀ G₀ env ρ os { s with heap := h', toks := n } GP ∧ GP e = some oe ∧ oe.cls = .type "ValueError" ∧ oe.data = .fields vs ∧ vs[0]? = some (.ref t) ∧ GP t = some { cls := .type "tuple", data := .seq #[.str m tk] } := by
 obtain ⟨oe, vs, T, oT, ts, he, hc, hd, h0, _⟩ := th.ex
 have far : ∀ {a : Addr}, s.heap.get? a = none → (∀ b ∈ all env os, b ≠ a) ∧ a ≠ env.globals ∧ a ≠ env.builtins ∧ s₀.heap.get? a = none ∧ G a = none ∧ a ∉ wr := fun {a} fr => by
  obtain ⟨nf, no, n0⟩ := f.fresh_far fr
  refine ⟨fun b hb q => ?_, fun q => nf (q ▸ .head _), fun q => nf (q ▸ .tail _ (.head _)), n0, ai f.E.sub fr, f.notin fr⟩
  obtain ⟨_, o, eo⟩ := f.out hb
  rw [q, fr] at eo; cases eo
 obtain ⟨a1, a2, a3, a4, a5, a6⟩ := far th.fe
 obtain ⟨b1, b2, b3, b4, b5, b6⟩ := far th.tt.2.1
 have f1 := f'.take (a := e) (k := .o oe) (o := oe) a1 a2 a3 a4 a5 he rfl
 have f2 := f1.take (a := t) (k := .o { cls := .type "tuple", data := .seq #[.str m tk] }) (fun b hb q => by
  rcases List.mem_append.mp hb with z | z
  · exact b1 b (List.mem_append_left _ z) q
  · rcases List.mem_cons.mp z with z | z
    · exact th.tt.1 (q.symm.trans z)
    · exact b1 b (List.mem_append_right _ z) q) b2 b3 b4 b5 th.tt.2.2 rfl
 obtain ⟨GP, fP, _, hP⟩ := f2.fixAll (os₁ := [_, _]) fun p hp => by
  rcases List.mem_cons.mp hp with rfl | hp
  · exact b6
  · erw [List.mem_singleton.mp hp]; exact a6
 obtain ⟨_, et, rfl⟩ := hP _ (.head _)
 obtain ⟨_, ee, rfl⟩ := hP _ (.tail _ (.head _))
 exact ⟨GP, _, vs, fP, ee, hc, hd, h0, et⟩
end
set_option tactic.hygienic false
noncomputable abbrev mT (g : Heap) (GQ : Mem) (a2 : Addr) (least : Int) : List (Str × D) := [(("upto":Str), .g GQ (.ref a2)), ("grid", .l ((aw least).map .i)), ("least", .i least), ("good", .b true), ("list", .v (.type "list")), ("range", .v (.type "range")), ("str", .v (.type "str")), ("ValueError", .v (.type "ValueError")), ("bisect_left", .g g.get? (.ref 32)), ("bisect_right", .g g.get? (.ref 23))]
set_option maxRecDepth 100000 in
set_option maxHeartbeats 8000000 in
theorem pv {w' : World} {A : Around} {g : Heap} {p : Program} {loose : List Str} {mean : ExcName → Option Value} {mg mb : Str → Option Value} (X : (hd.heap_39 w'.params).In g) (T : Top p loose mean mg mb g) (hA : A.handled = none) (hfr : A.frames = some []) (hroom : A.depth + 20 < recursionLimit) (hU : A.units + 120 < cLine)
 {oc : Value} {od : Option Addr} {osl : Array (Option Value)} {fd : FuncData} {body : List Stmt} (hfd : g.get? 121 = some ⟨oc, od, .func fd, osl⟩) (hbody : fd.body = .stmts body)
 {GQ : Mem} {least : Int} (hlst : -6 ≤ least ∧ least ≤ 0) {a2 : Addr} {os : List (Addr × Kd)}
 {L : Addr} {wr : List Addr} {s₀ s : Shared} {G₀ G : Mem} {Q : Flow → Shared → Prop} {E : Value → Shared → Prop} (f : Fm wr s₀ G₀ (callEnvC fd L 121) (mT g GQ a2 least) os s G)
 (h : ∀ v s' G' ρ', Fm wr s₀ G₀ (callEnvC fd L 121) ρ' os s' G' → Rp G' (.b true) v → Q (.ret v) s') :
 wpAny (model Challenge.rw_wb0032_01.row.prog w') (A.deeper (callEnvC fd L 121)) (execs (body.drop 11) (callEnvC fd L 121)) Q E s := by
 revert X
 k_fill
 intro X
 have hfd' := X 121 _ (by k_is)
 have hh := hfd'.symm.trans hfd
 clear hfd' hfd
 injection hh with hh
 injection hh with e1 e2 e3 e4
 injection e3 with e3
 subst e3
 injection hbody with hbody
 subst hbody
 clear e1 e2 e4
 have h32 := X 32 _ (by k_is)
 have h23 := X 23 _ (by k_is)
 refine dh (xs := [.g g.get? (.ref 32), .g g.get? (.ref 23)]) (fun ux => (mT g GQ a2 least)) (fun ux => os) f (lm (by exact hA) (bp (ab (aa (m6 m2)) (ab (aa (m6 m3)) ae)) (Nat.le_of_ble_eq_true rfl))) ?turn ?hend
 case hend =>
  intro s' G' E' f
  refine wpAny_execs_nil ?_
  refine go_retF (d := .b true) f (mM (aO (aa m3)) (e8 (aO (ah (mw (aa m1) (ah (eN (by exact hA) m4 m5 (ab (aa m2) (ab (ag (aa m2) ad bA) ae)) (by lia) (by lia) (by lia) (by lia) (by lia)) (congrArg D.l (ku least))) (gM (by show A.units + 3 + 64 < cLine; lia))) (by erw [beq_self_eq_true]))))) fun v s₂ G₂ f₂ r => h v s₂ G₂ _ f₂ r
 case turn =>
  intro i d hdi
  obtain ⟨a, oo, fdd, ha, hfa, rfl, hc⟩ : ∃ a oo fdd, g.get? a = some oo ∧ oo.data = .func fdd ∧ d = .g g.get? (.ref a) ∧ (∀ {s : Shared} {G : Mem} {Q E : Value → Shared → Prop} {vs ks : List Value} {xs : List D} {fa : Addr} (hst : ∀ en ∈ [f.envOf], en.scope.kind ≠ .module ∧ ∃ L o, en.frame = some L ∧ s.heap.get? L = some o ∧ ∀ vs, o.data ≠ .fields vs)
   (hin : In G s.heap) (hle : Le g.get? G) (hvs : RpL G [.l xs, .i 1, .i (-1)] vs) (hks : RpL G [.v (.ref fa)] ks)
   (hE : ∀ sr G' Lv h' e t tk, Kp s G sr G' → s.heap.get? Lv = none → G' Lv = none → Thr (Lv :: [f.envOf].filterMap (·.frame)) sr.heap e t (qx tk) "ValueError" .none h' → E (.ref e) { sr with heap := h' }), wpAny (model Challenge.rw_wb0032_01.row.prog w') (A.deeper f.envOf) (call (.ref a) vs ([("key":Str)].zip ks)) Q E s) := by
   have hfr' : (A.deeper f.envOf).frames = some [f.envOf] := by
    show A.frames.map _ = _
    erw [hfr]; rfl
   match i with
   | 0 => exact ⟨32, _, _, h32, rfl, (Option.some.inj hdi).symm, fun hst hin hle hvs hks hE => ct_negl X T (by exact hA) (by show A.depth + 1 < _; lia) hfr' hst hin hle hvs hks hE⟩
   | 1 => exact ⟨23, _, _, h23, rfl, (Option.some.inj hdi).symm, fun hst hin hle hvs hks hE => ct_negr X T (by exact hA) (by show A.depth + 1 < _; lia) hfr' hst hin hle hvs hks hE⟩
   | n + 2 => cases hdi
  clear hdi
  refine ⟨_, bS ar af, fun wr s₀ G₀ s G E' Qt kQt f => ?_⟩
  refine wpAny_execs_cons (wpAny_Try_except ?_)
  refine de ?_
  refine cj (kn := [("key":Str)]) (dF := .g g.get? (.ref a)) (ds := [.l ((aw least).map .i), .i 1, .i (-1)]) (kds := [.g GQ (.ref a2)]) (o := oo) (fd := fdd) f m0 (fun ux ux h => h.1) (fun s' G' f' => f'.E.sub _ _ (f'.leOf (x := "deed") (u := .ref a) (Gs := g.get?) m0 _ _ ha)) hfa (ab (aa m2) (ab ad (ab (gI ad dT) ae))) (bV (aa m1) bl) fun s₂ G₂ vs ks f₂ le₂ rv rk => ?_
  refine hc ?hst f₂.E.sub (f₂.leOf (x := "deed") m0) rv (im rk) fun sr G₃ Lv h' e t tk k₃ hLv gLv th => ?_
  case hst =>
   intro en hen
   erw [List.mem_singleton.mp hen]
   refine aG fun Z kZ => ?_
   obtain ⟨m, ol, es, ep, el, dl, _⟩ := f₂.O.ns
   refine kZ ?_
   clear kZ Z
   exact ⟨by erw [f₂.E.fn]; decide, L, ol, rfl, el, fun vs q => by rw [dl] at q; cases q⟩
  have f₃ := f₂.go k₃
  have stk : Stk [Lv, L] sr.heap [f.envOf] := by
   intro en hen
   erw [List.mem_singleton.mp hen]
   refine aG fun Z kZ => ?_
   obtain ⟨m, ol, es, ep, el, dl, _⟩ := f₃.O.ns
   refine kZ ?_
   clear kZ Z
   exact ⟨by erw [f₃.E.fn]; decide, L, ol, rfl, .tail _ (.head _), el, fun vs q => by rw [dl] at q; cases q⟩
  have hLs : ∀ L' ∈ ([Lv, L] : List Addr), L' = f.envOf.locals ∨ (∃ o, (L', bP o) ∈ os) ∨ (L' ∉ far f.envOf ∧ L' ∉ os.map (·.1) ∧ s₀.heap.get? L' = none ∧ G₃ L' = none) := by
   intro L' hL'
   rcases List.mem_cons.mp hL' with rfl | hL'
   · obtain ⟨nf, no, n0⟩ := f₂.fresh_far hLv
     exact .inr (.inr ⟨nf, no, n0, gLv⟩)
   · exact .inl (List.mem_singleton.mp hL')
  refine lw (s := { sr with heap := h' }) (outer := []) (L := L) ?hfr4 stk rfl th fun h2 th2 => ?_
  case hfr4 =>
   show A.frames.map _ = _
   erw [hfr]; rfl
  refine ch (s := { sr with heap := h2 }) th2 fun h3 th3 => ?_
  have f4 := f₃.thr (tk := sr.toks) th3.keep th3.slot hLs
  refine wpAny_handleBy_builtin_as (X := "ValueError") (T := "ValueError") (b := true) (by erw [isSubtype_type]; kernel_rfl) (by erw [isSubtype_type]; kernel_rfl) (by erw [isSubtype_type]; kernel_rfl) ?_
  refine qC (aa (d := .v (.type "ValueError")) (m6 m2)) f4.E fun v s₅ G₅ k₅ r₅ => ?_
  have th5 := th3.go k₅.hp
  refine aG fun Z kZ => ?_
  obtain ⟨hx, tx, rfl, kx⟩ := k₅.k
  refine kZ ?_
  clear kZ Z
  refine aG fun Z kZ => ?_
  obtain ⟨oe, vs, T', oT, ts, he, hce, hd, _⟩ := th5.ex
  refine kZ ?_
  clear kZ Z
  refine ⟨r₅, ⟨oe, he, hce⟩, ?_⟩
  erw [if_pos rfl]
  refine ch th5 fun h6 th6 => ?_
  have f6 := f₃.thr (tk := tx) th6.keep th6.slot hLs
  refine aG fun Z kZ => ?_
  obtain ⟨GP, oe, vs, fP, ee, hce, hd, h0, et⟩ := f₃.caught th6 f6
  refine kZ ?_
  clear kZ Z
  refine fP.set (x := "wrong") (d := .g GP (.ref e)) (Knd.l rfl) ⟨rfl, Le.rf _⟩ af fun s₇ f₇ => ?_
  refine bB (c := false) f₇ (aX (aj (jh (m6 m2) (ab (aa m0) ae) (oP (by show A.units + 3 + 2 < cLine; lia) ee hce hd h0 et)) aT (lp (by decide +kernel) (by decide +kernel) (by show A.units + 3 + 64 < cLine; lia))) (by decide +kernel)) (fun ux ux ux h => by cases h) fun s₈ G₈ f₈ ux => wpAny_execs_nil (wpAny_execs_nil (?_))
  refine Fm.goes (f₈.say (ρ' := (mT g GQ a2 least)) eS) rfl neB fun s₉ f₉ => ?_
  exact wpAny_execs_nil (kQt _ _ f₉)
set_option tactic.hygienic false
set_option maxRecDepth 100000 in
set_option maxHeartbeats 8000000 in
theorem ct_law {w' : World} {A : Around} {g : Heap} {p : Program} {loose : List Str} {mean : ExcName → Option Value} {mg mb : Str → Option Value} (X : (hd.heap_39 w'.params).In g) (T : Top p loose mean mg mb g) (C1 : CodeHd g 86 82) (C2 : CodeHd g 91 89) (C3 : CodeHd g 120 118)
 (hA : A.handled = none) (hfr : A.frames = some []) (hroom : A.depth + 20 < recursionLimit) (hU : A.units + 120 < cLine)
 {s : Shared} {G : Mem} {sc : List Int} {la : Addr} {R : Result → Shared → Prop} (hin : In G s.heap) (hle : Le g.get? G) (harg : Rp G (.l (sc.map .i)) (.ref la)) (hsc : sc.length ≤ 63) (hh : Held G s.heap [(82, ay 86 10), (89, .o (tabObj #[])), (118, .o (tabObj #[]))])
 (hR : ∀ s' G', Eff [(82, ay 86 10), (89, .o (tabObj #[])), (118, .o (tabObj #[]))] [(82, ay 86 10), (89, av), (118, av)] s G s' G' → R (.ok (.ret (.bool true))) s') : codeAny (model Challenge.rw_wb0032_01.row.prog w') A (.call (.ref 121) ⟨[.ref la], []⟩) R s := by
 have hroom0 : A.depth < recursionLimit := by lia
 revert X
 k_fill
 intro X
 have h68 := X 68 _ (by k_is)
 have h80 := X 80 _ (by k_is)
 have h111 := X 111 _ (by k_is)
 have h116 := X 116 _ (by k_is)
 have h75 := X 75 _ (by k_is)
 have h92 := X 92 _ (by k_is)
 have h23 := X 23 _ (by k_is)
 have h32 := X 32 _ (by k_is)
 k_dflt (refine' enterKC (os := [(82, ay 86 10), (89, .o (tabObj #[])), (118, .o (tabObj #[]))]) (ρ := ((("script":Str), .l (sc.map .i)) :: j0 g)) X T hroom0 hin hle ?ho ?hcd ?hbody ?hbind ?hclo ?hkind ?hnd ?gl ?bu ?hos ?hod ?hρ ?hrun ?hco ?hgen ?hk; ((case ho | hcd => k_is); (case hnd => decide +kernel); (case hbody | hclo | gl | bu | hco | hgen | hk => exact rfl)); (case hbind => exact BindsTo.of_eq rfl); (case hkind => exact rfl); (case hos => exact hh.1); (case hod => exact hh.2))
 case hρ =>
  intro h L hn hc hg hb
  repeat' first | exact List.forall_mem_nil _ | with_reducible refine aM ?_ ?_
  · exact dA hc rfl rfl rfl harg
  · exact aB hg hb rfl rfl rfl (mg_none_of X T.g (by k_is)) ((T.builtins _ (by decide)).trans (by decide +kernel))
  · exact aB hg hb rfl rfl rfl (mg_none_of X T.g (by k_is)) ((T.builtins _ (by decide)).trans (by decide +kernel))
  · exact aB hg hb rfl rfl rfl (mg_none_of X T.g (by k_is)) ((T.builtins _ (by decide)).trans (by decide +kernel))
  · exact aB hg hb rfl rfl rfl (mg_none_of X T.g (by k_is)) ((T.builtins _ (by decide)).trans (by decide +kernel))
  · exact aB hg hb rfl rfl rfl (mg_none_of X T.g (by k_is)) ((T.builtins _ (by decide)).trans (by decide +kernel))
  · exact aB hg hb rfl rfl rfl (mg_none_of X T.g (by k_is)) ((T.builtins _ (by decide)).trans (by decide +kernel))
  · exact aB hg hb rfl rfl rfl (mg_none_of X T.g (by k_is)) ((T.builtins _ (by decide)).trans (by decide +kernel))
  · exact dH hg hb rfl rfl rfl (mg_none_of X T.g (by k_is)) ((T.builtins _ (by decide)).trans (by decide +kernel))
  · exact dH hg hb rfl rfl rfl (mg_none_of X T.g (by k_is)) ((T.builtins _ (by decide)).trans (by decide +kernel))
  · exact dH hg hb rfl rfl rfl (mg_none_of X T.g (by k_is)) ((T.builtins _ (by decide)).trans (by decide +kernel))
  · exact bi hg rfl rfl (mg_of X T.g (by k_is)) hle
  · exact bi hg rfl rfl (mg_of X T.g (by k_is)) hle
  · exact lI hg rfl rfl (mg_of X T.g (by k_is)) hle
  · exact bi hg rfl rfl (mg_of X T.g (by k_is)) hle
  · exact bi hg rfl rfl (mg_of X T.g (by k_is)) hle
  · exact bi hg rfl rfl (mg_of X T.g (by k_is)) hle
  · exact bi hg rfl rfl (mg_of X T.g (by k_is)) hle
  · exact lI hg rfl rfl (mg_of X T.g (by k_is)) hle
 case hrun =>
  intro s₁ L f₁
  refine cp fun E' => ?_
  refine dp (xs := (base7.map D.i).mapIdx fun i d => D.t [.i i, d]) (cellF sc) (fun ux => true) [(("script":Str), .l (sc.map .i)), ("sum", .v (.builtin "sum"))] (fun d => match d with | .t [a, b] => [(("cell":Str), b), (("turn":Str), a), ("script", .l (sc.map .i)), ("sum", .v (.builtin "sum"))] | _ => []) f₁
   (aH m1 (ab (bc (ds := base7.map .i) (ab ad (ab ad (ab ad (ab ad (ab ad (ab ad (ab ad ae))))))) (by decide)) ae) (dU (by exact hA))) rfl (by decide +kernel) rfl (by decide +kernel) ?hcap ?has (fun C d ux => bD) ?he (by decide) ar (ρ' := ((("cells":Str), .l ((aQ sc).map .i)) :: ("script", .l (sc.map .i)) :: j0 g)) ?hset fun s₂ G₂ f₂ => ?_
  case hset => erw [n9]; exact af
  case hcap => exact fun C h G hE => aV hE rfl rfl rfl cv
  case has =>
   intro C d hd
   refine aG fun Z kZ => ?_
   obtain ⟨k, b, _, _, rfl⟩ := fX hd
   refine kZ ?_
   clear kZ Z
   exact bN (by exact hA) (ax rfl af) (ax rfl af)
  case he =>
   intro C d hd _
   refine aG fun Z kZ => ?_
   obtain ⟨k, b, _, _, rfl⟩ := fX hd
   refine kZ ?_
   clear kZ Z
   have h60 : (pick (sc.map D.i) none (some 60) none).length ≤ 1000000 := by erw [gA _ (by decide), List.length_take, List.length_map]; lia
   refine ag (aa m0) (aK m3 (ab (ah (bj (xs := (pick (sc.take 60) (some (k : Int)) none (some 7)).map .i) modF (fun ux => true) [] (fun d => [(("x":Str), d)]) (bg (by exact hA) (ah (c7 (hs := ⟨_, fun ux ux => by with_unfolding_all rfl⟩) (lo := some k) (hi := none) (st := some 7) (c7 (hs := ⟨_, fun ux ux => by with_unfolding_all rfl⟩) (lo := none) (hi := some 60) (st := none) (aa m2) trivial ad trivial (by decide) (by erw [List.length_map]; lia)) (aa m1) trivial ad (by decide) h60) (congrArg D.l (pick60 sc k)))) rfl (by decide +kernel) rfl (by decide +kernel) ?hcap2 ?has2 (fun C d ux => bD) ?he2 ?hz2) ?hcv) ae) (cl_sum (by exact hA))) bA
   case hcap2 => exact fun C h G hE => aV hE rfl rfl rfl cv
   case has2 => exact fun C d hd => ax rfl af
   case he2 =>
    intro C d hd _
    obtain ⟨x, _, rfl⟩ := List.mem_map.mp hd
    exact ag (aa m0) ad (ci (by exact hA) (by decide))
   case hz2 =>
    have := jg (sc.take 60) (Int.natCast_nonneg k)
    rw [List.length_take] at this
    erw [List.length_map]; lia
   case hcv =>
    erw [List.filter_eq_self.mpr (fun ux ux => rfl), List.map_map]
    show D.l _ = D.l ((eh sc k).map .i)
    unfold eh
    erw [List.map_map]
    rfl
  refine go_iter (ds := (((fm sc).flatten).map fun (n : Nat) => (n : Int)).map .i) (by exact hA) f₂ m3 (ah (pZ (xs := ((aQ sc).map D.i).mapIdx fun i d => D.t [.i i, d]) ysF id [(("_law_digits":Str), .g g.get? (.ref 68))] (fun d => match d with | .t [a, b] => [(("number":Str), b), (("turn":Str), a), ("_law_digits", .g g.get? (.ref 68))] | _ => []) (fun d => [(("octet":Str), d)])
   (aH m2 (ab (aa m0) ae) (dU (by exact hA))) rfl (by decide +kernel) rfl (by decide +kernel) ?hcap ?has ?hit2 (fun C d e ux ux => ax rfl af) (fun C d e ux ux => ah (d := e) (aa m0) rfl) ?hz) (congrArg D.l (lG sc))) ar (fun it => af) fun s₃ G₃ it l f₃ nit rl => ?_
  case hcap => exact fun C h G hE => aV hE rfl rfl rfl cv
  case has =>
   intro C d hd
   refine aG fun Z kZ => ?_
   obtain ⟨k, b, _, _, rfl⟩ := fX hd
   refine kZ ?_
   clear kZ Z
   exact bN (by exact hA) (ax rfl af) (ax rfl af)
  case hit2 =>
   intro C d hd
   refine aG fun Z kZ => ?_
   obtain ⟨k, b, _, _, rfl⟩ := fX hd
   refine kZ ?_
   clear kZ Z
   refine bg (by exact hA) (cg m2 h68 rfl (ab (aa m0) (ab (ah (ag (aa m1) ad (ci (by exact hA) (by decide))) (by erw [bv (by decide)])) ae)) (oK X T b ((k : Int) % 2) (by exact hA) (by show A.depth + 1 < _; lia)))
  case hz => erw [lG, List.length_map]; exact qk sc
  refine aG fun Z kZ => ?_
  obtain ⟨m₃, ol, es₃, ep₃, el, dl, _⟩ := f₃.O.ns
  refine kZ ?_
  clear kZ Z
  refine wpAny_execs_cons (wpAny_If (wpAny_isTrue_Compare1 ?hread (by with_unfolding_all rfl)))
  case hread =>
   refine lf (a := 75) (o := _) (fd := _) f₃ (dF := .g g.get? (.ref 75)) (m6 (m6 m4)) (fun ux ux h => h.1) h75 rfl fun s₄ G₄ f₄ le₄ => ?_
   refine spliced_more (az f₄ (d := .v (.ref it)) m0 fun v s₅ G₅ f₅ le₅ r₅ => ?_)
   obtain rfl : v = .ref it := r₅
   refine spliced_more (nil_own f₅ fun s₆ nb f₆ nnb => spliced_none ?_)
   refine ⟨f₆.E.sub _ _ (f₆.leOf (x := "_law_read") (u := .ref 75) (Gs := g.get?) (m6 (m6 m4)) _ _ h75), ?_⟩
   refine aG fun Z kZ => ?_
   obtain ⟨_, ol, _, _, el, dl, _⟩ := f₆.O.ns
   refine kZ ?_
   clear kZ Z
   refine ct_read (A := A.deeper _) (envL := f₆.envOf) (LL := L) (oLL := ol) (it := it) (l := l) (nb := nb) (encs := fm sc) (ns := aQ sc) X T (by exact hA) (by show A.depth + 1 + 1 < _; lia) ?hfr3 (by erw [f₆.E.fn]; decide) rfl (fun vs q => by rw [dl] at q; cases q) rfl (qO sc) (encs_ok sc) (rl.mono (le₄.tr le₅)) f₆.E.sub (f₆.leOf (x := "_law_read") (m6 (m6 m4))) (rc rfl (rc rfl rz)) ((f₆.heldL (os := [(nb, .l []), (it, itK l 0)]) (rest := [(82, ay 86 10), (89, .o (tabObj #[])), (118, .o (tabObj #[]))]) el).perm (gB _ _ _ _)) fun s₇ G₇ ef => ?_
   case hfr3 =>
    show A.frames.map _ = _
    erw [hfr]; rfl
   have f₇ := f₆.calledL (os := [(nb, .l []), (it, itK l 0)]) (rest := [(82, ay 86 10), (89, .o (tabObj #[])), (118, .o (tabObj #[]))]) el (ef.perm (nG _ _ _ _) (nG _ _ _ _)) (fun b hb ux => hb)
   refine aG fun Z kZ => ?_
   obtain ⟨G₈, f₈, le₈, r₈⟩ := f₇.freeze (ρ' := ((("tape":Str), .v (.ref it)) :: ("cells", .l ((aQ sc).map .i)) :: ("script", .l (sc.map .i)) :: j0 g)) nnb (fun p hp => .inl hp)
   refine kZ ?_
   clear kZ Z
   have f₈ := f₈.drop nit
   refine az f₈ (d := .l ((aQ sc).map .i)) m1 fun v s₉ G₉ f₉ le₉ r₉ => ?_
   refine cM (by show A.units + 3 + 64 < cLine; lia) s₉ G₉ _ _ _ _ f₉.E.sub (r₈.mono le₉) r₉ fun v sA GA kA rA => ?_
   obtain rfl : v = .bool (!(aQ sc == aQ sc)) := rA
   erw [beq_self_eq_true]
   refine wpAny_pure ?_
   erw [if_neg (by decide)]
   refine wpAny_execs_nil ?_
   have fA := (f₉.go kA).say (ρ' := ((("cells":Str), .l ((aQ sc).map .i)) :: j0 g)) eS
   obtain ⟨c0, c1, c2, c3, c4, c5, c6, ecs⟩ : ∃ c0 c1 c2 c3 c4 c5 c6, aQ sc = [c0, c1, c2, c3, c4, c5, c6] := ⟨_, _, _, _, _, _, _, rfl⟩
   have hcb := kD sc
   rw [ecs] at fA hcb
   have hp := fun k (h : 1 ≤ k) (_ : k < 6) => par_lt [c0, c1, c2, c3, c4, c5, c6] h
   have eP := pM c0 c1 c2 c3 c4 c5 c6
   have hw2 := nb_w2 [c0, c1, c2, c3, c4, c5, c6]
   have hw1 := nb_w [c0, c1, c2, c3, c4, c5, c6]
   have hwb := mK [c0, c1, c2, c3, c4, c5, c6]
   have hdb := dF_bd [c0, c1, c2, c3, c4, c5, c6]
   have hnd := fun k {c : Int} => nb_d [c0, c1, c2, c3, c4, c5, c6] k (c := c)
   generalize nK [c0, c1, c2, c3, c4, c5, c6] = par at hp eP
   generalize dF [c0, c1, c2, c3, c4, c5, c6] = d at hdb hnd eP
   generalize wF [c0, c1, c2, c3, c4, c5, c6] = w at hw2 hw1 hwb eP
   have h1 := hcb c1 (by simp)
   have h2 := hcb c2 (by simp)
   have h6 := hcb c6 (by simp)
   clear hcb
   refine ao (d := .l (bb par d w)) fA (ah (cg (m6 (m6 m3)) h80 rfl (ab (ah (d := .l (([c0, c1, c2, c3, c4, c5, c6] : List Int).map .i)) (aa m0) rfl) ae) (qh X T c0 c1 c2 c3 c4 c5 c6 (by exact hA) (by show A.depth + 1 < _; lia))) (congrArg D.l eP)) ar af fun sB GB fB => ?_
   refine nt (wr := [82, 89, 118]) (s₀ := s) (G₀ := G) (by exact hA) ?hdoc
   case hdoc =>
    refine aS fun QQ hqq => ?_
    refine cj (kn := []) (dF := .g g.get? (.ref 92)) (ds := [.l (([c0, c1, c2, c3, c4, c5, c6] : List Int).map .i), .l (bb par d w)]) (kds := []) (o := _) (fd := _) fB (m6 (m6 m5)) (fun ux ux h => h.1) (fun s' G' f' => f'.E.sub _ _ (f'.leOf (x := "_law_document") (u := .ref 92) (Gs := g.get?) (m6 (m6 m5)) _ _ h92)) rfl (ab (aa m1) (ab (aa m0) ae)) bl fun sC GC vs ks fC leC rv rk => ?_
    refine ct_doc (A := A.deeper _) X T C1 C2 (by exact hA) (by show A.depth + 1 + 2 < _; lia) (by show A.units + 3 + 100 < cLine; lia) par d w [c0, c1, c2, c3, c4, c5, c6] rfl hp fC.E.sub (fC.leOf (x := "_law_document") (m6 (m6 m5))) rv (Held.left (os := [(82, ay 86 10), (89, .o (tabObj #[]))]) (rest := [(118, .o (tabObj #[]))]) fC.held) fun sD GD v fs Ls ats ef rD hT => ?_
    have fD := fC.called (os := [(82, ay 86 10), (89, .o (tabObj #[]))]) (rest := [(118, .o (tabObj #[]))]) ef (fun b hb ux => hb)
    refine hqq _ _ ?_
    refine mJ (ρ' := ((("good":Str), .b true) :: ("root", .v (.ref (fs 0))) :: ("parts", .l (bb par d w)) :: ("cells", .l (([c0, c1, c2, c3, c4, c5, c6] : List Int).map .i)) :: j0 g)) (ds := [.v (.ref (fs 0)), .b true]) fD rD (bd ar af (bd ar af bq)) fun sE fE => ?_
    have fE := fE.say2B ["root"] (ρ' := ((("good":Str), .b true) :: ("root", .g GD (.ref (fs 0))) :: ("parts", .l (bb par d w)) :: ("cells", .l (([c0, c1, c2, c3, c4, c5, c6] : List Int).map .i)) :: j0 g))
    have hpl : ∀ k ∈ ([1, 2, 3, 4, 5] : List Nat), par k < k := fun k hk => by
     simp only [List.mem_cons, List.not_mem_nil, or_false] at hk
     exact hp k (by lia) (by lia)
    have hw0 : ∀ k, w k ≠ 0 := fun k => by have := hwb k; lia
    have ups : ∀ {env : Env} {ρ : List (Str × D)} {os : List (Addr × Kd)} {s₂ : Shared} {G₂ : Mem}, Fm [82, 89, 118] s G env ρ os s₂ G₂ → (s₂.heap.objs.size == sysModules) = false := fun f => gj T fun b o e => f.E.sub _ _ (f.K.le _ _ (hle _ _ e))
    obtain ⟨bs, hbs⟩ := Int.eq_ofNat_of_zero_le (Int.emod_nonneg c6 (show (28 : Int) ≠ 0 by decide))
    have hbs2 : bs < 28 := by have := Int.emod_lt_of_pos c6 (show (0 : Int) < 28 by decide); lia
    have hlst : -6 ≤ c6 / 28 % 7 - 6 ∧ c6 / 28 % 7 - 6 ≤ 0 := by lia
    refine nt (wr := [82, 89, 118]) (s₀ := s) (G₀ := G) (by exact hA) ?hlbt
    case hlbt =>
     refine Tuple_ ?_
     refine spliced_more ?_
     refine aS fun QQ hqq => ?_
     refine dD (d := .i (c6 / 28 % 7 - 6)) fE (ah (ag (ag (ag (aF (k := 6) (d := .i c6) (aa m3) ad (by decide) (by decide) rfl) ad (dI (by exact hA) (by decide) (gN (by decide)))) ad (ci (by exact hA) (by decide))) ad bL) (by erw [ck (by decide), bv (by decide)])) fun v sF GF fF leF rF => ?_
     refine hqq _ _ ?_
     generalize c6 / 28 % 7 - 6 = least at hlst rF
     refine spliced_more ?_
     refine aS fun QQ hqq => ?_
     refine p9 (dom := fun c => -12 ≤ c ∧ c ≤ 12) (ν := nuD par d w) fF (ups fF) fun sG bk fG nbk hsm => ?_
     refine hqq _ _ ?_
     refine spliced_more ?_
     refine aS fun QQ hqq => ?_
     refine dD (d := .l ((b9 par d w).map .i)) fG (cg (m6 (m6 (m6 m2))) h111 rfl (ab (aa m2) (ab (ah (d' := .i (bs : Int)) (ag (aF (k := 6) (d := .i c6) (aa m3) ad (by decide) (by decide) rfl) ad (ci (by exact hA) (by decide))) (by erw [bv (by decide), hbs])) ae)) (ct_poly X T par d w (fun k ux => hwb k) (fun k ux => hdb k) hbs2 (by show A.units + 3 + 67 < cLine; lia) (by exact hA) (by show A.depth + 1 + 1 < _; lia))) fun v3 sH GH fH leH rH => ?_
     refine hqq _ _ ?_
     refine spliced_none ?_
     refine bx (ds := [.i least, .v (.ref bk), .l ((b9 par d w).map .i)]) fH.E.sub (rc (rF.mono leH) (rc rfl (rc rH rz))) (Nat.le_of_ble_eq_true rfl) fun v sI GI kI rI => ?_
     refine mJ (ρ' := ((("total":Str), .l ((b9 par d w).map .i)) :: ("book", .v (.ref bk)) :: ("least", .i least) :: ("good", .b true) :: ("root", .g GD (.ref (fs 0))) :: ("parts", .l (bb par d w)) :: ("cells", .l (([c0, c1, c2, c3, c4, c5, c6] : List Int).map .i)) :: j0 g)) (ds := [.i least, .v (.ref bk), .l ((b9 par d w).map .i)]) (fH.go kI) rI (bd ar af (bd ar af (bd ar af bq))) fun sJ fJ => ?_
     refine bB (c := false) fJ (aX (aj (aa m0) (ah (d' := .l (([] : List Int).map .i)) (bc ae (by decide)) rfl) (gM (by show A.units + 3 + 64 < cLine; lia))) ?hne) (fun ux ux ux h => by cases h) fun sK GK fK ux => wpAny_execs_nil ?_
     case hne =>
      have := lk (d := d) (w := w) hpl
      cases q : b9 par d w with
      | nil => rw [q] at this; cases this
      | cons a r => rfl
     obtain ⟨fi, hfi⟩ := Int.eq_ofNat_of_zero_le (Int.emod_nonneg c1 (show (4 : Int) ≠ 0 by decide))
     obtain ⟨be, hbe⟩ := Int.eq_ofNat_of_zero_le (show 0 ≤ 7 - c2 % 4 by lia)
     have hfi2 : fi < 4 := by have := Int.emod_lt_of_pos c1 (show (0 : Int) < 4 by decide); lia
     have hbe2 : 4 ≤ be ∧ be ≤ 7 := by lia
     refine go_tup (ds := [.l ((aw least).map .i), .i (fi : Int), .i (be : Int)]) (by exact hA) fK (bp (ab (ah (eN (by exact hA) (m6 m4) (m6 m5) (ab (aa m2) (ab (ag (aa m2) ad bA) ae)) (by lia) (by lia) (by lia) (by lia) (by lia)) (congrArg D.l (ku least))) (ab (ah (ag (aF (k := 1) (d := .i c1) (aa (m6 m0)) ad (by decide) (by decide) rfl) ad (ci (by exact hA) (by decide))) (by erw [bv (by decide), hfi])) (ab (ah (ag ad (ag (aF (k := 2) (d := .i c2) (aa (m6 m0)) ad (by decide) (by decide) rfl) ad (ci (by exact hA) (by decide))) bL) (by erw [bv (by decide), hbe])) ae))) (Nat.le_of_ble_eq_true rfl)) (bd ar af (bd ar af (bd ar af bq))) fun sL GL fL => ?_
     generalize hPP : b9 par d w = P at fL
     have hm1 : ∀ c, (sgn P c).2 ≤ (sgn P (c + 1)).2 := fun c => hPP ▸ (kJ (d := d) hpl hw0 c).2
     have hm0 : ∀ c, (sgn P c).1 ≤ (sgn P (c + 1)).1 := fun c => hPP ▸ (kJ (d := d) hpl hw0 c).1
     have hc1 : ∀ c, cnt par d w c = sgn P c := fun c => hPP ▸ cnt_eq hpl hw0 c
     have hsg : ∀ c ∈ aw least, Ct (model Challenge.rw_wb0032_01.row.prog w') (A.deeper fL.envOf) g.get? 116 [.l (P.map .i), .i c] (.t [.i (sgn P c).1, .i (sgn P c).2]) := fun c hc => by
      have := lJ hc
      subst hPP
      exact pa X T (b9 par d w) c (lk hpl) (g6 (show c.natAbs < 2 ^ 64 by lia)) (horn_ne hpl hw0 c) (by exact hA) (by show A.depth + 1 < _; lia)
     clear hPP
     refine dp (xs := (aw least).map D.i) (toldF P) (fun ux => true) [(("total":Str), .l (P.map .i)), ("_law_signs", .g g.get? (.ref 116))] (fun d => [(("c":Str), d), ("total", .l (P.map .i)), ("_law_signs", .g g.get? (.ref 116))]) fL (bg (by exact hA) (aa m2)) rfl (by decide +kernel) rfl (by decide +kernel) ?hcap3 ?has3 (fun C d ux => bD) ?he3 (by erw [List.length_map, aN]; decide) ar (ρ' := ((("told":Str), .l (b8 P least)) :: ("behind", .i (be : Int)) :: ("first", .i (fi : Int)) :: ("grid", .l ((aw least).map .i)) :: ("book", .v (.ref bk)) :: ("least", .i least) :: ("good", .b true) :: ("root", .g GD (.ref (fs 0))) :: j0 g)) ?hset3 fun sM GM fM => ?_
     case hset3 => erw [pt]; exact aU
     case hcap3 => exact fun C h G hE => aV hE rfl rfl rfl cv
     case has3 => exact fun C d hd => ax rfl af
     case he3 =>
      intro C d hd _
      obtain ⟨c, hc, rfl⟩ := List.mem_map.mp hd
      exact cg m2 h116 rfl (ab (aa m1) (ab (aa m0) ae)) (hsg c hc)
     refine dy (wr := [82, 89, 118]) (s₀ := s) (G₀ := G) (names := [("below":Str), ("upto":Str)]) ?hA5 ?h5 ?b5 ?c5
     case hA5 => exact hA
     case b5 => exact rfl
     case c5 => kernel_rfl
     refine Tuple_ ?_
     refine spliced_more ?_
     refine aS fun QQ hqq => ?_
     refine kr T C3 (hle.tr fM.K.le) (fM.perm (pl3 _ _ _ _ _)) trivial rfl rfl rfl rfl rfl fun sN a1 r1 ct1 fN na1 nr1 => ?_
     refine hqq _ _ ?_
     refine spliced_more ?_
     refine aS fun QQ hqq => ?_
     refine kr T C3 (hle.tr fN.K.le) (fN.perm (pl2 _ _ _ _)) trivial rfl rfl rfl rfl rfl fun sO a2 r2 ct2 fO na2 nr2 => ?_
     refine hqq _ _ ?_
     refine spliced_none ?_
     obtain ⟨GP, fP, leP, hP⟩ := (fO.perm (((gB _ _ _ _).cons _).cons _)).fixAll (os₁ := [_, _, _, _]) (by
      intro p hp
      rcases List.mem_cons.mp hp with rfl | hp
      · exact nr2
      · rcases List.mem_cons.mp hp with rfl | hp
        · exact na2
        · rcases List.mem_cons.mp hp with rfl | hp
          · exact nr1
          · erw [List.mem_singleton.mp hp]; exact na1)
     refine aG fun Z kZ => ?_
     obtain ⟨_, eR2, vs2, t2, dR2, vR2⟩ := hP _ (.head _)
     refine kZ ?_
     clear kZ Z
     obtain ⟨_, eA2, rfl⟩ := hP _ (.tail _ (.head _))
     refine aG fun Z kZ => ?_
     obtain ⟨_, eR1, vs1, t1, dR1, vR1⟩ := hP _ (.tail _ (.tail _ (.head _)))
     refine kZ ?_
     clear kZ Z
     obtain ⟨_, eA1, rfl⟩ := hP _ (.tail _ (.tail _ (.tail _ (.head _))))
     clear hP
     have fP := (fP.sayK (k' := av) (fun o h => ⟨_, h⟩)).perm (perm_4 _ _ _ _ _)
     have leD : Le GD GP := fP.leOf (x := "root") (m6 m1)
     refine bx (ds := [.v (.ref a1), .v (.ref a2)]) fP.E.sub (rc rfl (rc rfl rz)) (Nat.le_of_ble_eq_true rfl) fun v sQ GQ kQ rQ => ?_
     refine jN (fP.go kQ) rQ (aI ar af (aI ar af bq)) fun sR fR => ?_
     have hT := (hT.mono leD).mono kQ.le
     have eR1 := kQ.le _ _ eR1
     have eR2 := kQ.le _ _ eR2
     have eA1 := kQ.le _ _ eA1
     have eA2 := kQ.le _ _ eA2
     have fR := fR.say2B ["below", "upto", "root"] (ρ' := (rO g GQ a1 a2 P least be fi bk (fs 0)))
     refine qN X T hA hroom hU (X 121 _ (by k_is)) rfl hT hp hw2 hw1 (fun k c h => hnd k h) (Le.rf _) hm0 hm1 hc1 hlst hfi2 hbe2 hsm eA1 eA2 ⟨_, vs1, t1, eR1, dR1, vR1⟩ ⟨_, vs2, t2, eR2, dR2, vR2⟩ rfl rfl fR fun s' G' f' => ?_
     refine pv X T hA hfr hroom hU (X 121 _ (by k_is)) rfl hlst (f'.say (ρ' := (mT g GQ a2 least)) eS) fun v s'' G'' ρ' f'' r => ?_
     obtain rfl : v = .bool true := r
     exact hR s'' G'' ((f''.drop nbk).eff (os := [(82, ay 86 10), (89, .o (tabObj #[])), (118, .o (tabObj #[]))]) (List.Sublist.refl _))
theorem k7 {P : Params} {h : Heap} : ∀ (sc : List Int) (vs : List Value), WellAll P h vs (ofPys (sc.map .int)) → ∀ G : Mem, RpL G (sc.map .i) vs
 | [], vs, w, G => by cases w; exact rfl
 | n :: sc, vs, w, G => by
   cases w with
   | cons a b =>
     cases a
     exact ⟨_, _, rfl, ⟨_, rfl⟩, k7 sc _ b G⟩
theorem well_ints {P : Params} {h : Heap} {la : Addr} {sc : List Int} (w : Well P h (.ref la) (ofPy (PyData.list (sc.map .int)))) : ∃ vs, h.get? la = some { cls := .type "list", data := .seq (List.toArray vs) } ∧ ∀ G : Mem, RpL G (sc.map .i) vs := by
 cases w with
 | list e r => exact ⟨_, e, fun G => k7 sc _ r G⟩
end Mine
open PySem PySem.W PyProof.Rows PySem.Calls
set_option tactic.hygienic true in
set_option maxRecDepth 100000 in
set_option maxHeartbeats 8000000 in
theorem PySem.Challenge.cw_wb0032_01_holds : PySem.Challenge.rw_wb0032_01.Holds := by
 refine holds_law Mine.said fun hsaid => ?_
 refine holds_open (q := Mine.vw) (loose := Mine.lse) (Xt := Mine.Xt) (XP := XL Mine.vw []) (Yf := Mine.hk.obs) (Ya := Mine.hk.val) (YP := Mine.hk.says) (N := 1472) (d := Mine.dLaw) (kwd := []) ?h1 ?h2 ?h3 ?h4 ?h5 ?h6 ?h7 ?h8 ?h9 ?h10 ?h11 ?h12 ?h13 ?hw ?hc
 case h1 => exact Mine.left
 case h2 => exact Mine.hk.of
 case h3 => exact Mine.hk.keeps
 case h4 => exact fun s e => xl_of s (Bool.and_eq_true_iff.mp e).1
 case h5 => exact XL.keeps
 case h6 => exact Mine.hdef
 case h7 => exact Mine.hthe
 case h8 => exact Mine.hkww
 case h9 => exact fun s e => recFacts_of (Bool.and_eq_true_iff.mp e).2
 case h10 => exact rfl
 case h11 => exact hsaid
 case h12 => exact Mine.hok
 case h13 => exact ⟨rfl, rfl, rfl, rfl, rfl, by decide +kernel⟩
 case hw => w_witness2
 case hc =>
 intro w s₀ s₁ mg mb G Y fa o pm cd doc dV kV ho hd hcd hD hmg hg args vals as hpre hlay hrd hwl hlo
 have KX : (Mine.hd.heap_39 w.params).In s₁.heap := km_in_of Y
 have hT8 : ∀ P ∈ [82, 89, 118], s₁.heap.get? P = some (tabObj #[]) := km_tabs_of Y
 refine Ground.open G ?_
 intro T B D TE TW
 clear D
 have hT9 : TabsAt [(86, 82), (91, 89), (120, 118)] s₁.heap := by
  intro q hq
  rcases List.mem_cons.mp hq with rfl | hq
  · exact ⟨codeHd_of_K (c := 86) (P := 82) KX (by kernel_rfl), hT8 82 (by decide)⟩
  · rcases List.mem_cons.mp hq with rfl | hq
    · exact ⟨codeHd_of_K (c := 91) (P := 89) KX (by kernel_rfl), hT8 89 (by decide)⟩
    · rw [List.mem_singleton.mp hq]
      exact ⟨codeHd_of_K (c := 120) (P := 118) KX (by kernel_rfl), hT8 118 (by decide)⟩
 wrow_args hpre hlay hrd hwl hlo
 rename_i sc _ _ _ _ _ _ _ la _ _ hL ra w1 r0 hI hr hlen hc2
 refine enter_call ?_
 refine kn_post hT9 (fun ux ux => rfl) ?_
 have hfa : mg ("law":Str) = some (.ref 121) := mg_of KX T.g (by kernel_rfl)
 have hmg : mg ("law":Str) = some (.ref fa) := hmg
 rw [hfa] at hmg
 obtain rfl : fa = 121 := (Value.ref.inj (Option.some.inj hmg)).symm
 obtain ⟨C1, C2, C3, _⟩ := ghost_code hT9
 obtain ⟨vs, el, rl⟩ := Mine.well_ints w1
 have br : ∀ P, P ∈ [82, 89, 118] → (ghostOf s₁.heap [(86, 82), (91, 89), (120, 118)]).get? P = none := fun P hP => hideAll_none _ hP
 refine Mine.ct_law (s := s₁) (G := (ghostOf s₁.heap [(86, 82), (91, 89), (120, 118)]).get?) (sc := sc) (ghost_K hT9 KX (by kernel_rfl)) (ghost_top hT9 T) C1 C2 C3 rfl rfl (by decide) (by decide) (fun b o e => of_hideAll _ e) (Mine.Le.rf _) ⟨la, _, _, rfl, ghost_get hT9 el (fun q => by cases q), rl _⟩ (by lia) ?hh fun s' G' ef => ?_
 case hh =>
  refine ⟨fun p hp => ?_, by decide⟩
  rcases List.mem_cons.mp hp with rfl | hp
  · exact ⟨br 82 (by decide), _, hT8 82 (by decide), .inl rfl⟩
  · rcases List.mem_cons.mp hp with rfl | hp
    · exact ⟨br 89 (by decide), _, hT8 89 (by decide), rfl⟩
    · rw [List.mem_singleton.mp hp]
      exact ⟨br 118 (by decide), _, hT8 118 (by decide), rfl⟩
 obtain ⟨h', tk, rfl, _⟩ := ef.K.k
 obtain ⟨_, o1, e1, k1⟩ := ef.H.1 _ (.head _)
 obtain ⟨_, o2, e2, k2⟩ := ef.H.1 _ (.tail _ (.head _))
 obtain ⟨_, o3, e3, k3⟩ := ef.H.1 _ (.tail _ (.tail _ (.head _)))
 obtain ⟨p2, rfl⟩ := k2
 obtain ⟨p3, rfl⟩ := k3
 refine ⟨⟨.inl ⟨.bool true, .bool true, [], rfl, fun ux => rfl, .bool true, ?_, fun ux => ⟨List.nodup_nil, fun a ha => nomatch ha⟩⟩, fun b o e => ef.K.sub _ _ (ef.K.le _ _ e), rfl, hg⟩, ?_, ⟨p2, e2⟩, ⟨p3, e3⟩, trivial⟩
 · wrow_post
 · rcases k1 with rfl | ⟨c', rfl⟩
   · exact ⟨_, e1⟩
   · exact ⟨_, e1⟩
