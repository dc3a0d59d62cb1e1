import Derived.Test.YtjdjhccefnffmaaB01
set_option linter.unusedVariables false
set_option linter.unusedSimpArgs false
namespace Go.Proofs.Ytjdjhccefnffmaa.LX
open Go
variable {P : Program} {E : Env} {c : Cfg} {w0 w : World} {ρ : Nat → Nat} {ext : Nat → Nat × Nat} {st : St} {a : Act} {o : Oper}

theorem getD_put {a : Act} {d t : Nat} {v : Value} : (a.put (some d) v).tmps.getD t undef = if d = t ∧ d < a.tmps.size then v else a.tmps.getD t undef := by
  simp only [Act.put, Array.getD_eq_getD_getElem?, Array.getElem?_setIfInBounds]
  by_cases h : d = t
  · subst h
    by_cases h2 : d < a.tmps.size
    · simp [h2]
    · simp [h2]
  · simp [h]

theorem beq_ne {k t : Nat} (h : k ≠ t) : Nat.beq k t = false := by
  cases hb : Nat.beq k t with
  | false => rfl
  | true => exact absurd (beq_eq hb) h

theorem lkN_cons {α : Type} {k t : Nat} {v : α} {l : List (Nat × α)} : lkN ((k, v) :: l) t = if k = t then some v else lkN l t := by
  simp only [lkN]
  by_cases h : k = t
  · simp [h]
  · have : Nat.beq k t = false := beq_ne h
    simp [this, h]

theorem lkM_cons {α : Type} {k : Nat × Nat} {r o : Nat} {v : α} {l : List ((Nat × Nat) × α)} : lkM ((k, v) :: l) r o = if k = (r, o) then some v else lkM l r o := by
  obtain ⟨k1, k2⟩ := k
  simp only [lkM]
  by_cases h : k1 = r
  · by_cases h2 : k2 = o
    · simp [h, h2]
    · have : Nat.beq k2 o = false := beq_ne h2
      simp [this, h2]
  · have : Nat.beq k1 r = false := beq_ne h
    simp [this, h]

theorem mem1_append {l m : List Nat} {e : Nat} (h : mem1 (l ++ m) e = true) : mem1 l e = true ∨ mem1 m e = true := by
  induction l with
  | nil => exact .inr h
  | cons x l ih =>
    simp only [List.cons_append, mem1, Bool.or_eq_true] at h ⊢
    rcases h with h | h
    · exact .inl (.inl h)
    · rcases ih h with h | h
      · exact .inl (.inr h)
      · exact .inr h

theorem put_sound {g : Got} {st' : St} {dst : Option Tmp} (hR : Rel c w0 ρ ext st a w) (hp : st.put c dst g = some st') (hok : ok ρ g.v) (hb : ∀ e, mem1 g.bs e = true → ρ e ≤ 1) :
    Rel c w0 ρ ext st' (a.put dst (den (base ext c.ne w0.heap.size) ρ g.v)) w ∧ st'.defs = zipFrom st.nx g.fs ++ st.defs ∧ ∃ d, dst = some d := by
  unfold St.put at hp
  split at hp
  · rename_i d
    cases hlt : Nat.blt d c.nt with
    | false => rw [hlt] at hp; cases hp
    | true =>
      rw [hlt] at hp; cases hp
      have hd := blt_lt hlt
      refine ⟨⟨by simp [Act.put, hR.size], hR.defers, fun t v h => ?_, hR.heap, hR.mem, fun e he => ?_, hR.kp, hR.old⟩, rfl, d, rfl⟩
      · rw [getD_put]
        simp only [lkN_cons] at h
        by_cases hdt : d = t
        · rw [if_pos hdt] at h; cases h
          rw [if_pos ⟨hdt, by rw [hR.size]; exact hd⟩]
          exact ⟨rfl, hok⟩
        · rw [if_neg hdt] at h
          rw [if_neg (fun h => hdt h.1)]
          exact hR.tm t v h
      · rcases mem1_append he with h | h
        · exact hb e h
        · exact hR.bits e h
  · cases hp

theorem SO.wp {V : Value} {K : Act → World → Prop} {Q : Exit → Act → World → Prop} (h : SO P o a w V) (hK : K (a.put o.dst V) w) : o.wp P a w K Q := by
  unfold Oper.wp
  rcases h with h | ⟨f, args, h, hc⟩
  · rw [h]; exact hK
  · rw [h]
    exact hc.mono fun e w' ⟨he, hw⟩ => by subst he; subst hw; exact hK

theorem SO.still {V : Value} {K : Act → Prop} (h : SO P o a w V) (hK : K (a.put o.dst V)) : o.still P a w K := by
  unfold Oper.still
  rcases h with h | ⟨f, args, h, hc⟩
  · rw [h]; exact ⟨rfl, hK⟩
  · rw [h]; exact ⟨rfl, V, hc, hK⟩

theorem Rel.drew (h : Rel c w0 ρ ext st a w) : Rel c w0 ρ ext st a w.drew :=
  ⟨h.size, h.defers, h.tm, h.heap, h.mem, h.bits, h.kp.drew, h.old⟩

theorem base_ext {r : Nat} (h : r < c.ne) : base ext c.ne w0.heap.size r = ext r := by simp [base, h]
theorem base_own {r : Nat} (h : c.ne ≤ r) : base ext c.ne w0.heap.size r = (w0.heap.size + (r - c.ne), 0) := by simp [base, Nat.not_lt.2 h]

/-- Two places whose regions cannot meet are apart. -/
theorem base_ne (hR : Rel c w0 ρ ext st a w) {r r' : Nat} (h : r ≠ r') (h2 : c.ne ≤ r ∨ c.ne ≤ r') : (base ext c.ne w0.heap.size r).1 ≠ (base ext c.ne w0.heap.size r').1 := by
  rcases Nat.lt_or_ge r c.ne with h3 | h3
  · have h4 : c.ne ≤ r' := by omega
    rw [base_ext h3, base_own h4]
    have := hR.old r h3
    simp only; omega
  · rw [base_own h3]
    rcases Nat.lt_or_ge r' c.ne with h4 | h4
    · rw [base_ext h4]; have := hR.old r' h4; simp only; omega
    · rw [base_own h4]; simp only; omega

/-- A store of a number. -/
theorem exec_store {t : TypeId} {x y : Operand} (ho : o.op = .store t x y) {i : TypeInfo} (hi : P.info? t = some i) (hs : i.size = 1) {b q : Nat} {kd : IntKind} {n : Int} {u : Value}
    (hx : a.eval x = .pointer (some ⟨b, q, none⟩)) (hy : a.eval y = .int kd n) (hc : Cel w b q u) :
    (execOp a.eval o).run P w = .ok .skip (w.setCell ⟨b, q, none⟩ (.int kd n)) := by
  have hst : (store ⟨b, q, none⟩ (.int kd n) .plain).run P w = .ok () (w.setCell ⟨b, q, none⟩ (.int kd n)) := by
    show Sem.run P (.store .plain ⟨b, q, none⟩ (.int kd n) (.pure ())) w = _
    simp [Sem.run, hc.1, hc.2]
  simp only [execOp, ho, hx, hy]
  simp [Instr.storeAt, Instr.sureAddr, storeVar, Value.cells, run_sizeOf hi, hs, storeCells]
  rw [Go.Addr.add_zero', hst]; rfl

theorem far_lk {ne : Nat} {l : List ((Nat × Nat) × SV)} {r q : Nat} {v : SV} (h : lkM (l.filter (far ne)) r q = some v) : lkM l r q = some v ∧ (r = 0 ∨ ne ≤ r) := by
  induction l with
  | nil => cases h
  | cons e l ih =>
    obtain ⟨k, u⟩ := e
    rw [List.filter_cons] at h
    rw [lkM_cons]
    by_cases hf : far ne (k, u) = true
    · rw [if_pos hf, lkM_cons] at h
      by_cases hk : k = (r, q)
      · rw [if_pos hk] at h ⊢
        refine ⟨h, ?_⟩
        subst hk
        simp only [far, Bool.or_eq_true] at hf
        rcases hf with h | h
        · exact .inl (beq_eq h)
        · exact .inr (ble_le h)
      · rw [if_neg hk] at h ⊢; exact ih h
    · rw [if_neg hf] at h
      obtain ⟨h1, h2⟩ := ih h
      by_cases hk : k = (r, q)
      · subst hk
        exfalso; apply hf
        simp only [far, Bool.or_eq_true]
        rcases h2 with h2 | h2
        · left; simp [h2]
        · right; simpa using h2
      · rw [if_neg hk]; exact ⟨h1, h2⟩

/-- Writing a cell that is known. -/
theorem write_sound (hR : Rel c w0 ρ ext st a w) {r q : Nat} {v u : SV} (hlk : lkM st.mem r q = some u) (hok : ok ρ v) (hr : c.ne ≤ r ∨ (r = 0 ∧ 0 < c.ne ∧ q < c.len)) {mem : List ((Nat × Nat) × SV)}
    (hmem : ∀ r' q' v', lkM mem r' q' = some v' → lkM st.mem r' q' = some v' ∧ (r' = r ∨ c.ne ≤ r ∨ c.ne ≤ r')) :
    Rel c w0 ρ ext { st with mem := ((r, q), v) :: mem } a (w.setCell ⟨(base ext c.ne w0.heap.size r).1, (base ext c.ne w0.heap.size r).2 + q, none⟩ (den (base ext c.ne w0.heap.size) ρ v)) := by
  obtain ⟨hcel, -, hrl⟩ := hR.mem r q u hlk
  refine ⟨hR.size, hR.defers, hR.tm, by simpa using hR.heap, fun r' q' v' h => ?_, hR.bits, hR.kp.setCell _ (fun hlt => ?_), hR.old⟩
  · simp only [lkM_cons] at h
    by_cases hk : (r, q) = (r', q')
    · rw [if_pos hk] at h; cases h
      simp only [Prod.mk.injEq] at hk
      obtain ⟨rfl, rfl⟩ := hk
      exact ⟨hcel.set_same _, hok, hrl⟩
    · rw [if_neg hk] at h
      obtain ⟨h1, h2⟩ := hmem r' q' v' h
      obtain ⟨g1, g2, g3⟩ := hR.mem r' q' v' h1
      refine ⟨g1.set_other ?_ _, g2, g3⟩
      by_cases hrr : r = r'
      · right
        subst hrr
        have : q ≠ q' := fun e => hk (by rw [e])
        omega
      · left
        refine base_ne hR hrr ?_
        rcases h2 with h | h | h
        · exact absurd h.symm hrr
        · exact .inl h
        · exact .inr h
  · rcases hr with h | ⟨h, h2, h3⟩
    · rw [base_own h] at hlt; simp only at hlt; omega
    · subst h
      rw [base_ext h2]
      exact ⟨rfl, by omega, by omega⟩

theorem tail_sound (hE : E.Holds P) (hR : Rel c w0 ρ ext st a w) (hne : 0 < c.ne) {st' : St} (h : tailOp E c st o = some st') (hf : Fits ρ st'.defs)
    {K : Act → World → Prop} {Q : Exit → Act → World → Prop} (hK : ∀ a' w', Rel c w0 ρ ext st' a' w' → K a' w') : o.wp P a w K Q := by
  unfold tailOp at h
  split at h
  -- store
  · rename_i t x y ho
    split at h
    · rename_i r q v kd hd hx hy hk
      obtain ⟨h1, h2⟩ := opd_some hR hx
      obtain ⟨h3, h4⟩ := opd_some hR hy
      cases hb : isK kd v && (lkM st.mem r q).isSome with
      | false => rw [hb] at h; cases h
      | true =>
        rw [hb] at h
        simp only [Bool.and_eq_true] at hb
        obtain ⟨hb1, hb2⟩ := hb
        obtain ⟨u, hu⟩ := Option.isSome_iff_exists.1 hb2
        obtain ⟨d1, d2⟩ := isK_some hb1 (base ext c.ne w0.heap.size) ρ
        obtain ⟨-, i, hi, hs, -⟩ := hE.ints' t kd hk
        have hrun := exec_store (w := w) (a := a) ho hi hs (by rw [h1]; rfl) (by rw [h3, d1]) (hR.mem r q u hu).1
        have fin : ∀ mem, (c.ne ≤ r ∨ (r = 0 ∧ 0 < c.ne ∧ q < c.len)) → (∀ r' q' v', lkM mem r' q' = some v' → lkM st.mem r' q' = some v' ∧ (r' = r ∨ c.ne ≤ r ∨ c.ne ≤ r')) →
            (∀ a' w', Rel c w0 ρ ext { st with mem := ((r, q), v) :: mem } a' w' → K a' w') → o.wp P a w K Q := fun mem hr hm hK => by
          unfold Oper.wp
          rw [hrun, Oper.upon_skip, hd]
          have := hK a _ (write_sound hR hu h4 hr hm)
          rw [d1] at this
          exact this
        cases hb3 : Nat.ble c.ne r with
        | true =>
          simp only [hb3, cond_true] at h; cases h
          have hr := ble_le hb3
          exact fin st.mem (.inl hr) (fun r' q' v' h => ⟨h, .inr (.inl hr)⟩) hK
        | false =>
          simp only [hb3, cond_true, cond_false] at h
          cases hb4 : Nat.beq r 0 && Nat.blt q c.len with
          | false => rw [hb4] at h; cases h
          | true =>
            rw [hb4] at h; cases h
            simp only [Bool.and_eq_true] at hb4
            have hr0 := beq_eq hb4.1
            exact fin _ (.inr ⟨hr0, hne, blt_lt hb4.2⟩) (fun r' q' v' h => ⟨(far_lk h).1, by rcases (far_lk h).2 with h | h; exact .inl (h.trans hr0.symm); exact .inr (.inr h)⟩) hK
    · cases h
  -- alloc
  · rename_i t ho
    split at h
    · rename_i d kd hd hk
      cases hb : Nat.blt d c.nt && unsigned kd with
      | false => rw [hb] at h; cases h
      | true =>
        rw [hb] at h; cases h
        simp only [Bool.and_eq_true] at hb
        obtain ⟨hu, i, hi, hs, hz⟩ := hE.ints' t kd hk
        have hrun : (execOp a.eval o).run P w = .ok (.value (.pointer (some ⟨w.heap.size, 0, none⟩))) (w.alloc (.cells #[.int kd 0] t)) := by
          simp only [execOp, ho]
          simp [Instr.alloc, zeroValue, typeInfo, hi, hz, newVar, newRow, Value.cells]
        unfold Oper.wp
        rw [hrun, Oper.upon_value, hd]
        have hbase : base ext c.ne w0.heap.size (c.ne + st.nl) = (w.heap.size, 0) := by
          rw [base_own (by omega), hR.heap]; congr 2; omega
        refine hK _ _ ⟨by simp [Act.put, hR.size], hR.defers, fun t' v h => ?_, by simp [hR.heap]; omega, fun r' q' v' h => ?_, hR.bits, hR.kp.alloc _, hR.old⟩
        · rw [getD_put]
          simp only [lkN_cons] at h
          by_cases hdt : d = t'
          · rw [if_pos hdt] at h; cases h
            rw [if_pos ⟨hdt, by rw [hR.size]; exact blt_lt hb.1⟩]
            refine ⟨?_, trivial⟩
            simp only [den, hbase]
          · rw [if_neg hdt] at h
            rw [if_neg (fun h => hdt h.1)]
            exact hR.tm t' v h
        · simp only [lkM_cons] at h
          by_cases hkk : (c.ne + st.nl, 0) = (r', q')
          · rw [if_pos hkk] at h; cases h
            simp only [Prod.mk.injEq] at hkk
            obtain ⟨rfl, rfl⟩ := hkk
            rw [hbase]
            refine ⟨Cel.new w #[.int kd 0] t 0 _ rfl, Nat.pow_pos (by omega), ?_⟩
            show c.ne + st.nl < c.ne + (st.nl + 1); omega
          · rw [if_neg hkk] at h
            obtain ⟨g1, g2, g3⟩ := hR.mem r' q' v' h
            refine ⟨g1.alloc _, g2, ?_⟩
            show r' < c.ne + (st.nl + 1); omega
    · cases h
  -- call of the conditional move
  · rename_i k ho
    split at h
    · rename_i f d hcal hd
      split at h
      · rename_i x z y1 y2 hargs
        split at h
        · rename_i r q cz va vb hx hz ha hb'
          cases hb : Nat.beq f E.cmov && Nat.ble c.ne r && (lkM st.mem r q).isSome && isU64 cz && bit st cz && isU64 va && isU64 vb && Nat.blt d c.nt with
          | false => rw [hb] at h; cases h
          | true =>
            rw [hb] at h; cases h
            simp only [Bool.and_eq_true] at hb
            obtain ⟨⟨⟨⟨⟨⟨⟨hb1, hb2⟩, hb3⟩, hb4⟩, hb5⟩, hb6⟩, hb7⟩, hb8⟩ := hb
            have hfm := beq_eq hb1
            subst hfm
            obtain ⟨u, hu⟩ := Option.isSome_iff_exists.1 hb3
            obtain ⟨h1, h2⟩ := opd_some hR hx
            obtain ⟨h3, h4⟩ := opd_some hR hz
            obtain ⟨h5, h6⟩ := opd_some hR ha
            obtain ⟨h7, h8⟩ := opd_some hR hb'
            obtain ⟨d1, d2⟩ := isU64_some hb4 (base ext c.ne w0.heap.size) ρ
            obtain ⟨e1, e2⟩ := isU64_some hb6 (base ext c.ne w0.heap.size) ρ
            obtain ⟨g1, g2⟩ := isU64_some hb7 (base ext c.ne w0.heap.size) ρ
            have hbit := bit_some hR.bits hb5
            have hea : k.args.map a.eval = #[.pointer (some ⟨(base ext c.ne w0.heap.size r).1, (base ext c.ne w0.heap.size r).2 + q, none⟩), .int .u64 (num ρ cz : Int), .int .u64 (num ρ va : Int), .int .u64 (num ρ vb : Int)] := by
              have : k.args = #[x, z, y1, y2] := by rw [← hargs]
              rw [this]; simp [h1, h3, h5, h7, d1, e1, g1, den]
            have f1 : ρ st.nx = if num ρ cz = 0 then num ρ va else num ρ vb := hf st.nx _ (List.mem_cons_self ..)
            unfold Oper.wp
            rw [exec_call ho hcal, hea, hE.cmov.1, Oper.upon_enter]
            refine (hE.cmov.2 _ _ _ _ _ _ w (hR.mem r q u hu).1 hbit (e2 h6) (g2 h8)).mono ?_
            rintro e w' ⟨rfl, rfl⟩
            have hlt : ρ st.nx < 2 ^ IntKind.u64.bits := by rw [f1, pow_u64]; split; exact e2 h6; exact g2 h8
            have hw := write_sound (v := .s .u64 st.nx) hR hu hlt (.inl (ble_le hb2)) (mem := st.mem) (fun r' q' v' h => ⟨h, .inr (.inl (ble_le hb2))⟩)
            have hv : den (base ext c.ne w0.heap.size) ρ (.s .u64 st.nx) = .int .u64 ((if num ρ cz = 0 then num ρ va else num ρ vb : Nat) : Int) := by
              show Value.int .u64 (ρ st.nx : Int) = _; rw [f1]
            rw [hv] at hw
            refine hK _ _ ⟨by rw [hd]; simp [Act.put, hR.size], by rw [hd]; exact hR.defers, fun t' v h => ?_, hw.heap, hw.mem, hw.bits, hw.kp, hw.old⟩
            rw [hd, getD_put]
            have hne : d ≠ t' := fun e => by
              subst e
              have : ∀ l : List (Nat × SV), lkN (l.filter fun e => !Nat.beq e.1 d) d = none := by
                intro l
                induction l with
                | nil => rfl
                | cons e l ih =>
                  obtain ⟨k', u'⟩ := e
                  rw [List.filter_cons]
                  split
                  · rename_i hne
                    rw [lkN_cons, if_neg (by rintro rfl; simp at hne)]; exact ih
                  · exact ih
              rw [this] at h; cases h
            rw [if_neg (fun h => hne h.1)]
            have : ∀ l : List (Nat × SV), lkN (l.filter fun e => !Nat.beq e.1 d) t' = some v → lkN l t' = some v := by
              intro l
              induction l with
              | nil => intro h; cases h
              | cons e l ih =>
                obtain ⟨k', u'⟩ := e
                intro h
                rw [List.filter_cons] at h
                rw [lkN_cons]
                split at h
                · rw [lkN_cons] at h
                  split at h
                  · rename_i h'; rw [if_pos h']; exact h
                  · rename_i h'; rw [if_neg h']; exact ih h
                · rename_i h'
                  have : k' = d := by simpa using h'
                  rw [if_neg (fun e => hne (this ▸ e))]; exact ih h
            exact hR.tm t' v (this _ h)
        · cases h
      · cases h
    · cases h
  · cases h
end Go.Proofs.Ytjdjhccefnffmaa.LX
namespace Go.Proofs.Ytjdjhccefnffmaa.LX
open Go
variable {P : Program} {E : Env} {c : Cfg} {w0 w : World} {ρ : Nat → Nat} {ext : Nat → Nat × Nat} {st : St} {a : Act} {o : Oper}

theorem Fits.right {ρ : Nat → Nat} {d1 d2 : List (Nat × FnS)} (h : Fits ρ (d1 ++ d2)) : Fits ρ d2 := fun e f he => h e f (List.mem_append_right _ he)
theorem Fits.left {ρ : Nat → Nat} {d1 d2 : List (Nat × FnS)} (h : Fits ρ (d1 ++ d2)) : Fits ρ d1 := fun e f he => h e f (List.mem_append_left _ he)

/-- Definitions are only laid on. -/
def Grow (d1 d2 : List (Nat × FnS)) : Prop := ∃ l, d2 = l ++ d1
theorem Grow.refl (d : List (Nat × FnS)) : Grow d d := ⟨[], rfl⟩
theorem Grow.trans {a b c : List (Nat × FnS)} (h : Grow a b) (k : Grow b c) : Grow a c := by
  obtain ⟨l, rfl⟩ := h; obtain ⟨m, rfl⟩ := k; exact ⟨m ++ l, by simp⟩
theorem Grow.fits {a b : List (Nat × FnS)} (h : Grow a b) (hf : Fits ρ b) : Fits ρ a := by
  obtain ⟨l, rfl⟩ := h; exact hf.right

theorem put_grow {g : Got} {st' : St} {dst : Option Tmp} (hp : st.put c dst g = some st') : Grow st.defs st'.defs := by
  unfold St.put at hp
  split at hp
  · rename_i d
    cases hlt : Nat.blt d c.nt with
    | false => rw [hlt] at hp; cases hp
    | true => rw [hlt] at hp; cases hp; exact ⟨_, rfl⟩
  · cases hp

theorem put_defs {g : Got} {st' : St} {dst : Option Tmp} (hp : st.put c dst g = some st') : st'.defs = zipFrom st.nx g.fs ++ st.defs := by
  unfold St.put at hp
  split at hp
  · rename_i d
    cases hlt : Nat.blt d c.nt with
    | false => rw [hlt] at hp; cases hp
    | true => rw [hlt] at hp; cases hp; rfl
  · cases hp

theorem tail_grow {st' : St} (h : tailOp E c st o = some st') : Grow st.defs st'.defs := by
  unfold tailOp at h
  split at h
  · split at h
    · rename_i r q v kd hd hx hy hk
      cases hb : isK kd v && (lkM st.mem r q).isSome with
      | false => rw [hb] at h; cases h
      | true =>
        rw [hb] at h
        cases hb3 : Nat.ble c.ne r with
        | true => simp only [hb3, cond_true] at h; cases h; exact Grow.refl _
        | false =>
          simp only [hb3, cond_true, cond_false] at h
          cases hb4 : Nat.beq r 0 && Nat.blt q c.len with
          | false => rw [hb4] at h; cases h
          | true => rw [hb4] at h; cases h; exact Grow.refl _
    · cases h
  · split at h
    · rename_i d kd hd hk
      cases hb : Nat.blt d c.nt && unsigned kd with
      | false => rw [hb] at h; cases h
      | true => rw [hb] at h; cases h; exact Grow.refl _
    · cases h
  · split at h
    · split at h
      · split at h
        · rename_i f d hcal hd _ x z y1 y2 hargs _ _ _ _ r q cz va vb hx hz ha hb'
          cases hb : Nat.beq f E.cmov && Nat.ble c.ne r && (lkM st.mem r q).isSome && isU64 cz && bit st cz && isU64 va && isU64 vb && Nat.blt d c.nt with
          | false => rw [hb] at h; cases h
          | true => rw [hb] at h; cases h; exact ⟨[_], rfl⟩
        · cases h
      · cases h
    · cases h
  · cases h

theorem step_grow {st' : St} (h : stepOp E c st o = some st') : Grow st.defs st'.defs := by
  unfold stepOp at h
  cases hg : noGuard o with
  | false => rw [hg] at h; cases h
  | true =>
    simp only [hg, cond_true] at h
    split at h
    · exact put_grow h
    · exact tail_grow h

theorem execL_grow : ∀ {l : List Oper} {st st' : St}, execL E c l st = some st' → Grow st.defs st'.defs
  | [], st, st', h => by cases h; exact Grow.refl _
  | o :: l, st, st', h => by
    simp only [execL] at h
    split at h
    · rename_i st1 h1; exact (step_grow h1).trans (execL_grow h)
    · cases h

theorem wanted_of {y : Nat → Option Bool} (h : noGuard o = true) : Region.wanted o y = true := by
  unfold noGuard at h
  unfold Region.wanted
  split at h
  · rename_i hg; rw [hg]
  · cases h

theorem execL_sound (hE : E.Holds P) (hne : 0 < c.ne) {ops : Array Oper} {Q : Exit → Act → World → Prop} {stF : St} (hf : Fits ρ stF.defs) (hQ : ∀ a' w', Rel c w0 ρ ext stF a' w' → Q .normal a' w') :
    ∀ {l : List Oper} {st : St} {a : Act} {w : World}, execL E c l st = some stF → Rel c w0 ρ ext st a w → wpList P ops Q l a w
  | [], st, a, w, h, hR => by cases h; exact hQ a w hR
  | o :: l, st, a, w, h, hR => by
    simp only [execL] at h
    split at h
    · rename_i st1 h1
      have hf1 := (execL_grow h).fits hf
      unfold wpList
      have ng : noGuard o = true := by
        unfold stepOp at h1
        cases hg : noGuard o with
        | false => rw [hg] at h1; cases h1
        | true => rfl
      rw [wanted_of ng, if_pos rfl]
      left
      unfold stepOp at h1
      simp only [ng, cond_true] at h1
      split at h1
      · rename_i g hg
        have hgr := put_grow h1
        have hfz : Fits ρ (zipFrom st.nx g.fs) := by
          rw [put_defs h1] at hf1; exact hf1.left
        obtain ⟨h2, h3, h4⟩ := still_sound hE hR hg hfz
        exact h2.wp (execL_sound hE hne hf hQ h (put_sound hR h1 h3 h4).1)
      · exact tail_sound hE hR hne h1 hf1 fun a' w' hR' => execL_sound hE hne hf hQ h hR'
    · cases h

/-- The first operations of a region that draws. -/
theorem heads_sound (hE : E.Holds P) {ops : Array Oper} {stF : St} (hf : Fits ρ stF.defs) {Q : Act → Prop} (n : Nat) (rest : List Oper) :
    ∀ {l : List Oper} {st : St} {a : Act}, l.length = n → n ≤ heads E c (l ++ rest) st → execL E c (l ++ rest) st = some stF → Rel c w0 ρ ext st a w →
    (∀ st' a', execL E c rest st' = some stF → Rel c w0 ρ ext st' a' w → Q a') → wpStill P ops w Q l a := by
  induction n with
  | zero => intro l st a hl _ hx hR hQ; cases l with
    | nil => exact hQ st a hx hR
    | cons o l => cases hl
  | succ n ih =>
    intro l st a hl hh hx hR hQ
    cases l with
    | nil => cases hl
    | cons o l =>
      simp only [List.cons_append, heads] at hh
      simp only [List.cons_append, execL] at hx
      cases hg : noGuard o with
      | false => rw [hg] at hh; simp at hh
      | true =>
        rw [hg] at hh
        simp only [cond_true] at hh
        unfold wpStill
        rw [wanted_of hg, if_pos rfl]
        split at hh
        · rename_i g hs
          split at hh
          · rename_i st1 hp
            have hst : stepOp E c st o = some st1 := by unfold stepOp; simp only [hg, cond_true, hs, hp]
            rw [hst] at hx
            simp only at hx
            have hf1 := (execL_grow hx).fits hf
            have hfz : Fits ρ (zipFrom st.nx g.fs) := by
              rw [put_defs hp] at hf1; exact hf1.left
            obtain ⟨h2, h3, h4⟩ := still_sound hE hR hs hfz
            exact h2.still (ih (by simpa using hl) (by omega) hx (put_sound hR hp h3 h4).1 hQ)
          · simp at hh
        · simp at hh

theorem region_sound (hE : E.Holds P) (hne : 0 < c.ne) {Q : Exit → Act → World → Prop} {stF : St} (hf : Fits ρ stF.defs) (hQ : ∀ a' w', Rel c w0 ρ ext stF a' w' → Q .normal a' w')
    {id : Nat} {ops : Array Oper} {d : Bool} (hd : (d && !drawOk E c ops.toList st) = false) (hx : execL E c ops.toList st = some stF) (hR : Rel c w0 ρ ext st a w) :
    (Code.region id ops d).wp P Q a w := by
  cases d with
  | false => exact wp_region_list (execL_sound hE hne hf hQ hx hR)
  | true =>
    simp only [Bool.true_and, Bool.not_eq_false'] at hd
    unfold drawOk at hd
    have e : ops.toList.toArray = ops := by simp
    cases hn : Nat.beq (heads E c ops.toList st) ops.toList.length with
    | true =>
      rw [hn] at hd
      simp only [cond_true] at hd
      have hlen := beq_eq hn
      have h := heads_sound (ops := ops.toList.toArray) (w := w.drew) hE hf (Q := fun a' => Q .normal a' w.drew) ops.toList.length [] (l := ops.toList) rfl (by rw [List.append_nil]; omega) (by rw [List.append_nil]; exact hx) hR.drew
        (fun st' a' hx' hR' => by cases hx'; exact hQ a' _ hR')
      have := wp_region_still_lit (P := P) (id := id) (Q := Q) (a := a) (w := w) (l := ops.toList) hE.wide hd h
      rwa [e] at this
    | false =>
      rw [hn] at hd
      simp only [cond_false] at hd
      have hle : heads E c ops.toList st ≤ ops.toList.length := by
        have : ∀ (l : List Oper) (st : St), heads E c l st ≤ l.length := by
          intro l
          induction l with
          | nil => intro st; exact Nat.le_refl _
          | cons o l ih =>
            intro st
            simp only [heads]
            cases noGuard o with
            | false => simp
            | true =>
              simp only [cond_true]
              split
              · split
                · rename_i st' _; have := ih st'; simp; exact this
                · simp
              · simp
        exact this _ _
      have h := heads_sound (ops := ops.toList.toArray) (w := w.drew) hE hf (Q := fun a' => wpList P ops.toList.toArray Q (ops.toList.drop (heads E c ops.toList st)) a' w.drew)
        (heads E c ops.toList st) (ops.toList.drop (heads E c ops.toList st)) (l := ops.toList.take (heads E c ops.toList st)) (by rw [List.length_take]; omega) (by rw [List.take_append_drop]; exact Nat.le_refl _)
        (by rw [List.take_append_drop]; exact hx) hR.drew (fun st' a' hx' hR' => execL_sound hE hne hf hQ hx' hR')
      have := wp_region_still_tail (P := P) (id := id) (Q := Q) (a := a) (w := w) (l := ops.toList) (heads E c ops.toList st) hE.wide hd h
      rwa [e] at this

def outExit : Out → Exit
  | .on => .normal
  | .ret => .ret

theorem exec_grow : ∀ {x : Code} {st st' : St} {u : Out}, exec E c x st = some (u, st') → Grow st.defs st'.defs
  | .skip, _, _, _, h => by cases h; exact Grow.refl _
  | .ret, _, _, _, h => by cases h; exact Grow.refl _
  | .region _ ops d, st, st', u, h => by
    simp only [exec] at h
    cases hd : d && !drawOk E c ops.toList st with
    | true => rw [hd] at h; cases h
    | false =>
      simp only [hd, cond_false] at h
      split at h
      · rename_i st1 h1; cases h; exact execL_grow h1
      · cases h
  | .seq x y, st, st', u, h => by
    simp only [exec] at h
    split at h
    · rename_i st1 h1; exact (exec_grow h1).trans (exec_grow h)
    · exact exec_grow h
  | .cond .., _, _, _, h => by cases h
  | .block .., _, _, _, h => by cases h
  | .loop .., _, _, _, h => by cases h
  | .rangeFunc .., _, _, _, h => by cases h
  | .exit .., _, _, _, h => by cases h
  | .scope .., _, _, _, h => by cases h
  | .label .., _, _, _, h => by cases h
  | .goto .., _, _, _, h => by cases h
  | .refuse .., _, _, _, h => by cases h

theorem exec_sound (hE : E.Holds P) (hne : 0 < c.ne) {stF : St} (hf : Fits ρ stF.defs) :
    ∀ {x : Code} {st : St} {u : Out} {Q : Exit → Act → World → Prop} {a : Act} {w : World}, exec E c x st = some (u, stF) → Rel c w0 ρ ext st a w →
      (∀ a' w', Rel c w0 ρ ext stF a' w' → Q (outExit u) a' w') → x.wp P Q a w := by
  intro x
  induction x generalizing stF with
  | skip => intro st u Q a w h hR hQ; cases h; exact wp_skip (hQ a w hR)
  | ret => intro st u Q a w h hR hQ; cases h; exact wp_ret (hQ a w hR)
  | region id ops d =>
    intro st u Q a w h hR hQ
    simp only [exec] at h
    cases hd : d && !drawOk E c ops.toList st with
    | true => rw [hd] at h; cases h
    | false =>
      simp only [hd, cond_false] at h
      split at h
      · rename_i st1 h1; cases h; exact region_sound hE hne hf hQ hd h1 hR
      · cases h
  | seq x y ihx ihy =>
    intro st u Q a w h hR hQ
    simp only [exec] at h
    split at h
    · rename_i st1 h1
      exact wp_seq (ihx ((exec_grow h).fits hf) h1 hR fun a' w' hR' => ihy hf h hR' hQ)
    · rename_i h1
      refine wp_seq (ihx hf h hR fun a' w' hR' => ?_)
      cases u with
      | on => exact absurd h (h1 stF)
      | ret => exact hQ a' w' hR'
  | _ => intro st u Q a w h; cases h
end Go.Proofs.Ytjdjhccefnffmaa.LX
namespace Go.Proofs.Ytjdjhccefnffmaa.LX
open Go

/-- Symbols below m alone. -/
def under (m : Nat) : SV → Bool
  | .s _ e => Nat.blt e m
  | .t x y => under m x && under m y
  | _ => true

def FnS.under (m : Nat) : FnS → Bool
  | .mulhi x y | .mullo x y => LX.under m x && LX.under m y
  | .addlo x y c | .addc x y c | .sublo x y c | .subb x y c | .cmov c x y => LX.under m x && LX.under m y && LX.under m c
  | .bin _ _ x y => LX.under m x && LX.under m y
  | .neg _ x | .conv _ x => LX.under m x

theorem num_under {ρ ρ' : Nat → Nat} {m : Nat} (h : ∀ s, s < m → ρ s = ρ' s) {v : SV} (hv : under m v = true) : num ρ v = num ρ' v := by
  cases v with
  | s kd e => exact h e (blt_lt hv)
  | _ => rfl

theorem FnS.ev_under {ρ ρ' : Nat → Nat} {m : Nat} (h : ∀ s, s < m → ρ s = ρ' s) {f : FnS} (hf : f.under m = true) : f.ev ρ = f.ev ρ' := by
  cases f <;> simp only [FnS.under, Bool.and_eq_true] at hf <;> simp only [FnS.ev]
  case mulhi => rw [num_under h hf.1, num_under h hf.2]
  case mullo => rw [num_under h hf.1, num_under h hf.2]
  case addlo => rw [num_under h hf.1.1, num_under h hf.1.2, num_under h hf.2]
  case addc => rw [num_under h hf.1.1, num_under h hf.1.2, num_under h hf.2]
  case sublo => rw [num_under h hf.1.1, num_under h hf.1.2, num_under h hf.2]
  case subb => rw [num_under h hf.1.1, num_under h hf.1.2, num_under h hf.2]
  case bin => rw [num_under h hf.1, num_under h hf.2]
  case neg => rw [num_under h hf]
  case conv => rw [num_under h hf]
  case cmov => rw [num_under h hf.1.1, num_under h hf.1.2, num_under h hf.2]

/-- The symbols' values: those below n are given. -/
def val (n : Nat) (ρ0 : Nat → Nat) (defs : List (Nat × FnS)) : Nat → Nat → Nat
  | 0, e => ρ0 e
  | k + 1, e => if e < n then ρ0 e else match lkN defs e with | some f => f.ev (val n ρ0 defs k) | none => 0

def orderly (n : Nat) (defs : List (Nat × FnS)) : List (Nat × FnS) → Bool
  | [] => true
  | (e, f) :: l => Nat.ble n e && f.under e && (match lkN defs e with | some _ => true | none => false) && orderly n defs l

theorem lkN_mem {α : Type} {l : List (Nat × α)} {e : Nat} {v : α} (h : lkN l e = some v) : (e, v) ∈ l := by
  induction l with
  | nil => cases h
  | cons x l ih =>
    obtain ⟨k, u⟩ := x
    rw [lkN_cons] at h
    split at h
    · rename_i hk; cases h; subst hk; exact List.mem_cons_self ..
    · exact List.mem_cons_of_mem _ (ih h)

theorem orderly_mem {n : Nat} {defs : List (Nat × FnS)} : ∀ {l : List (Nat × FnS)}, orderly n defs l = true → ∀ e f, (e, f) ∈ l → n ≤ e ∧ f.under e = true
  | [], _, e, f, h => by cases h
  | (e', f') :: l, h, e, f, hm => by
    simp only [orderly, Bool.and_eq_true] at h
    rcases List.mem_cons.1 hm with h1 | h1
    · cases h1; exact ⟨ble_le h.1.1.1, h.1.1.2⟩
    · exact orderly_mem h.2 e f h1

theorem val_stable {n : Nat} {ρ0 : Nat → Nat} {defs : List (Nat × FnS)} (ho : orderly n defs defs = true) : ∀ (e k : Nat), e < k → val n ρ0 defs k e = val n ρ0 defs (e + 1) e := by
  intro e
  induction e using Nat.strongRecOn with
  | _ e ih =>
    intro k hk
    obtain ⟨k, rfl⟩ : ∃ j, k = j + 1 := ⟨k - 1, by omega⟩
    simp only [val]
    split
    · rfl
    · split
      · rename_i f hf
        obtain ⟨-, hu⟩ := orderly_mem ho e f (lkN_mem hf)
        refine FnS.ev_under (m := e) (fun s hs => ?_) hu
        rw [ih s hs k (by omega), ih s hs e hs]
      · rfl

/-- No number is defined twice. -/
def single : List (Nat × FnS) → Bool
  | [] => true
  | (e, _) :: l => (match lkN l e with | some _ => false | none => true) && single l

theorem single_lk : ∀ {l : List (Nat × FnS)}, single l = true → ∀ e f, (e, f) ∈ l → lkN l e = some f
  | [], _, e, f, h => by cases h
  | (e', f') :: l, h, e, f, hm => by
    simp only [single, Bool.and_eq_true] at h
    rw [lkN_cons]
    rcases List.mem_cons.1 hm with h1 | h1
    · cases h1; simp
    · have := single_lk h.2 e f h1
      split
      · rename_i he
        subst he
        rw [this] at h; simp at h
      · exact this

theorem exists_rho (n : Nat) (ρ0 : Nat → Nat) (defs : List (Nat × FnS)) (ho : orderly n defs defs = true) (hs : single defs = true) : ∃ ρ : Nat → Nat, (∀ e, e < n → ρ e = ρ0 e) ∧ Fits ρ defs := by
  refine ⟨fun e => val n ρ0 defs (e + 1) e, fun e he => by simp [val, he], fun e f hf => ?_⟩
  obtain ⟨hn, hu⟩ := orderly_mem ho e f hf
  have hl := single_lk hs e f hf
  show val n ρ0 defs (e + 1) e = _
  simp only [val, Nat.not_lt.2 hn, if_false, hl]
  exact FnS.ev_under (m := e) (fun s hs => val_stable ho s e hs) hu

def Hold (ρ : Nat → Nat) : List (Nat × FnS) → Prop
  | [] => True
  | (e, f) :: l => ρ e = f.ev ρ ∧ Hold ρ l

theorem Fits.hold {ρ : Nat → Nat} : ∀ {l : List (Nat × FnS)}, Fits ρ l → Hold ρ l
  | [], _ => trivial
  | (e, f) :: l, h => ⟨h e f (List.mem_cons_self ..), Fits.hold fun e' f' h' => h e' f' (List.mem_cons_of_mem _ h')⟩

theorem calls_sound {P : Program} {E : Env} {c : Cfg} {w : World} {ρ : Nat → Nat} {ext : Nat → Nat × Nat} {st stF : St} {f : FuncId} {fn : Func} {b : Code} {args : Array Value} {u : Out}
    (hE : E.Holds P) (hne : 0 < c.ne) (hf : P.funcs[f]? = some fn) (hb : fn.body = some b) (hres : fn.results = #[]) (hx : exec E c b st = some (u, stF)) (hfit : Fits ρ stF.defs)
    (hR : Rel c w ρ ext st { tmps := args ++ Array.replicate (fn.ntmps - args.size) undef, defers := [] } w) :
    Calls P f args w fun e w' => e = .returned (.tuple #[]) ∧ ∃ a', Rel c w ρ ext stF a' w' := by
  refine calls_of_wp hf hb (exec_sound hE hne hfit hx hR fun a' w' hR' => ?_)
  have : (results fn a'.tmps).run P w' = .ok (.tuple #[]) w' := by simp [results, hres]
  cases u
  · exact ⟨hR'.defers, _, this, rfl, a', hR'⟩
  · exact ⟨hR'.defers, _, this, rfl, a', hR'⟩
end Go.Proofs.Ytjdjhccefnffmaa.LX
namespace Go.Proofs.Ytjdjhccefnffmaa.LX
open Go
variable {P : Program} {E : Env} {c : Cfg} {w : World} {ρ : Nat → Nat} {ext : Nat → Nat × Nat} {st : St}

theorem lkM_mem {l : List ((Nat × Nat) × SV)} {r o : Nat} {v : SV} (h : lkM l r o = some v) : ((r, o), v) ∈ l := by
  induction l with
  | nil => cases h
  | cons x l ih =>
    obtain ⟨k, u⟩ := x
    rw [lkM_cons] at h
    split at h
    · rename_i hk; cases h; subst hk; exact List.mem_cons_self ..
    · exact List.mem_cons_of_mem _ (ih h)

theorem rel_init {a : Act} (hsz : a.tmps.size = c.nt) (hd : a.defers = []) (ht : ∀ t v, (t, v) ∈ st.tm → a.tmps.getD t undef = den (base ext c.ne w.heap.size) ρ v ∧ ok ρ v)
    (hm : ∀ r o v, ((r, o), v) ∈ st.mem → r < c.ne ∧ Cel w (ext r).1 ((ext r).2 + o) (den (base ext c.ne w.heap.size) ρ v) ∧ ok ρ v) (hnl : st.nl = 0)
    (hb : ∀ e, mem1 st.bits e = true → ρ e ≤ 1) (hold : ∀ r, r < c.ne → (ext r).1 < w.heap.size) : Rel c w ρ ext st a w := by
  refine ⟨hsz, hd, fun t v h => ht t v (lkN_mem h), by rw [hnl]; rfl, fun r o v h => ?_, hb, Kp.refl _ _, hold⟩
  obtain ⟨h1, h2, h3⟩ := hm r o v (lkM_mem h)
  rw [base_ext (w0 := w) h1]
  exact ⟨h2, h3, by omega⟩

/-- What is kept of a run: the definitions, and what lies in the first region. -/
def outcome (c : Cfg) : Option (Out × St) → Option (List (Nat × FnS) × List (Option SV))
  | some (_, s) => some (s.defs, (List.range c.len).map fun i => lkM s.mem 0 i)
  | none => none

theorem leaf_call {f : FuncId} {fn : Func} {b : Code} {args : Array Value} {n : Nat} {ρ0 : Nat → Nat} {defs : List (Nat × FnS)} {outs : List (Option SV)}
    (hE : E.Holds P) (hne : 0 < c.ne) (hf : P.funcs[f]? = some fn) (hb : fn.body = some b) (hres : fn.results = #[]) (hx : outcome c (exec E c b st) = some (defs, outs))
    (ho : orderly n defs defs = true) (hs : single defs = true)
    (hin : ∀ ρ, (∀ e, e < n → ρ e = ρ0 e) → Rel c w ρ ext st { tmps := args ++ Array.replicate (fn.ntmps - args.size) undef, defers := [] } w) :
    Calls P f args w fun e w' => e = .returned (.tuple #[]) ∧ ∃ ρ, (∀ e, e < n → ρ e = ρ0 e) ∧ Fits ρ defs ∧
      Kp (fun k o => k = (ext 0).1 ∧ (ext 0).2 ≤ o ∧ o < (ext 0).2 + c.len) w w' ∧
      ∀ i v, i < c.len → outs[i]? = some (some v) → Cel w' (ext 0).1 ((ext 0).2 + i) (den (base ext c.ne w.heap.size) ρ v) ∧ ok ρ v := by
  cases hr : exec E c b st with
  | none => rw [hr] at hx; cases hx
  | some r =>
    obtain ⟨u, s⟩ := r
    rw [hr] at hx
    simp only [outcome, Option.some.injEq, Prod.mk.injEq] at hx
    obtain ⟨rfl, rfl⟩ := hx
    obtain ⟨ρ, h1, h2⟩ := exists_rho n ρ0 s.defs ho hs
    refine (calls_sound hE hne hf hb hres hr h2 (hin ρ h1)).mono ?_
    rintro e w' ⟨rfl, a', hR⟩
    refine ⟨rfl, ρ, h1, h2, hR.kp, fun i v hi hv => ?_⟩
    have hv' : lkM s.mem 0 i = some v := by
      simp [List.getElem?_map, List.getElem?_range hi] at hv; exact hv
    obtain ⟨g1, g2, -⟩ := hR.mem 0 i v hv'
    rw [base_ext (w0 := w) hne] at g1
    exact ⟨g1, g2⟩

def m4 (r n : Nat) : List ((Nat × Nat) × SV) := [((r, 0), .s .u64 n), ((r, 1), .s .u64 (n + 1)), ((r, 2), .s .u64 (n + 2)), ((r, 3), .s .u64 (n + 3))]

/-- Four words. -/
structure W4 (w : World) (b o : Nat) (x0 x1 x2 x3 : Nat) : Prop where
  c0 : Cel w b o (.int .u64 (x0 : Int))
  c1 : Cel w b (o + 1) (.int .u64 (x1 : Int))
  c2 : Cel w b (o + 2) (.int .u64 (x2 : Int))
  c3 : Cel w b (o + 3) (.int .u64 (x3 : Int))
  l0 : x0 < two64
  l1 : x1 < two64
  l2 : x2 < two64
  l3 : x3 < two64

theorem m4_mem {x0 x1 x2 x3 : Nat} {B : Nat → Nat × Nat} {r n r' o : Nat} {v : SV} (h : ((r', o), v) ∈ m4 r n) (hw : W4 w (ext r).1 (ext r).2 x0 x1 x2 x3)
    (h0 : ρ n = x0) (h1 : ρ (n + 1) = x1) (h2 : ρ (n + 2) = x2) (h3 : ρ (n + 3) = x3) :
    r' = r ∧ Cel w (ext r').1 ((ext r').2 + o) (den B ρ v) ∧ ok ρ v := by
  simp only [m4, List.mem_cons, Prod.mk.injEq, List.not_mem_nil, or_false] at h
  rcases h with ⟨⟨rfl, rfl⟩, rfl⟩ | ⟨⟨rfl, rfl⟩, rfl⟩ | ⟨⟨rfl, rfl⟩, rfl⟩ | ⟨⟨rfl, rfl⟩, rfl⟩
  · exact ⟨rfl, by rw [den, h0]; exact hw.c0, by rw [ok, h0, pow_u64]; exact hw.l0⟩
  · exact ⟨rfl, by rw [den, h1]; exact hw.c1, by rw [ok, h1, pow_u64]; exact hw.l1⟩
  · exact ⟨rfl, by rw [den, h2]; exact hw.c2, by rw [ok, h2, pow_u64]; exact hw.l2⟩
  · exact ⟨rfl, by rw [den, h3]; exact hw.c3, by rw [ok, h3, pow_u64]; exact hw.l3⟩

theorem getD_front {a : Array Value} {n t : Nat} (h : t < a.size) : (a ++ Array.replicate n undef).getD t undef = a.getD t undef := by
  simp [Array.getD_eq_getD_getElem?, Array.getElem?_append_left h]

def ptr (p : Nat × Nat) : Value := .pointer (some ⟨p.1, p.2, none⟩)

/-- Out, and one or two inputs, of four words each. -/
def stIn2 : St := { tm := [(0, .p 0 0), (1, .p 1 0)], nx := 8, defs := [], mem := m4 0 4 ++ m4 1 0, nl := 0, bits := [] }
def stIn3 : St := { tm := [(0, .p 0 0), (1, .p 1 0), (2, .p 2 0)], nx := 12, defs := [], mem := m4 0 8 ++ (m4 1 0 ++ m4 2 4), nl := 0, bits := [] }

def ext2 (p q : Nat × Nat) : Nat → Nat × Nat
  | 0 => p
  | _ => q
def ext3 (p q r : Nat × Nat) : Nat → Nat × Nat
  | 0 => p
  | 1 => q
  | _ => r

theorem rel3 {nt : Nat} {p q r : Nat × Nat} {z0 z1 z2 z3 x0 x1 x2 x3 y0 y1 y2 y3 : Nat} (hnt : 3 ≤ nt) (hz : W4 w p.1 p.2 z0 z1 z2 z3) (hx : W4 w q.1 q.2 x0 x1 x2 x3) (hy : W4 w r.1 r.2 y0 y1 y2 y3)
    (e0 : ρ 0 = x0) (e1 : ρ 1 = x1) (e2 : ρ 2 = x2) (e3 : ρ 3 = x3) (e4 : ρ 4 = y0) (e5 : ρ 5 = y1) (e6 : ρ 6 = y2) (e7 : ρ 7 = y3) (e8 : ρ 8 = z0) (e9 : ρ 9 = z1) (e10 : ρ 10 = z2) (e11 : ρ 11 = z3) :
    Rel ⟨3, 4, nt⟩ w ρ (ext3 p q r) stIn3 { tmps := #[ptr p, ptr q, ptr r] ++ Array.replicate (nt - 3) undef, defers := [] } w := by
  refine rel_init (by simp; omega) rfl (fun t v h => ?_) (fun r' o v h => ?_) rfl (fun e h => by cases h) (fun r' hr => ?_)
  · simp only [stIn3, List.mem_cons, Prod.mk.injEq, List.not_mem_nil, or_false] at h
    rcases h with ⟨rfl, rfl⟩ | ⟨rfl, rfl⟩ | ⟨rfl, rfl⟩
    · exact ⟨by rw [getD_front (by show _ < 3; omega)]; simp [den, base, ext3, ptr], trivial⟩
    · exact ⟨by rw [getD_front (by show _ < 3; omega)]; simp [den, base, ext3, ptr], trivial⟩
    · exact ⟨by rw [getD_front (by show _ < 3; omega)]; simp [den, base, ext3, ptr], trivial⟩
  · simp only [stIn3, List.mem_append] at h
    rcases h with h | h | h
    · obtain ⟨rfl, h2⟩ := m4_mem (B := base (ext3 p q r) 3 w.heap.size) (ext := ext3 p q r) h hz e8 e9 e10 e11
      exact ⟨by show 0 < 3; omega, h2⟩
    · obtain ⟨rfl, h2⟩ := m4_mem (B := base (ext3 p q r) 3 w.heap.size) (ext := ext3 p q r) h hx e0 e1 e2 e3
      exact ⟨by show 1 < 3; omega, h2⟩
    · obtain ⟨rfl, h2⟩ := m4_mem (B := base (ext3 p q r) 3 w.heap.size) (ext := ext3 p q r) h hy e4 e5 e6 e7
      exact ⟨by show 2 < 3; omega, h2⟩
  · have : r' = 0 ∨ r' = 1 ∨ r' = 2 := by have : r' < 3 := hr; omega
    rcases this with rfl | rfl | rfl
    · exact hz.c0.lt
    · exact hx.c0.lt
    · exact hy.c0.lt

theorem rel2 {nt : Nat} {p q : Nat × Nat} {z0 z1 z2 z3 x0 x1 x2 x3 : Nat} (hnt : 2 ≤ nt) (hz : W4 w p.1 p.2 z0 z1 z2 z3) (hx : W4 w q.1 q.2 x0 x1 x2 x3)
    (e0 : ρ 0 = x0) (e1 : ρ 1 = x1) (e2 : ρ 2 = x2) (e3 : ρ 3 = x3) (e4 : ρ 4 = z0) (e5 : ρ 5 = z1) (e6 : ρ 6 = z2) (e7 : ρ 7 = z3) :
    Rel ⟨2, 4, nt⟩ w ρ (ext2 p q) stIn2 { tmps := #[ptr p, ptr q] ++ Array.replicate (nt - 2) undef, defers := [] } w := by
  refine rel_init (by simp; omega) rfl (fun t v h => ?_) (fun r' o v h => ?_) rfl (fun e h => by cases h) (fun r' hr => ?_)
  · simp only [stIn2, List.mem_cons, Prod.mk.injEq, List.not_mem_nil, or_false] at h
    rcases h with ⟨rfl, rfl⟩ | ⟨rfl, rfl⟩
    · exact ⟨by rw [getD_front (by show _ < 2; omega)]; simp [den, base, ext2, ptr], trivial⟩
    · exact ⟨by rw [getD_front (by show _ < 2; omega)]; simp [den, base, ext2, ptr], trivial⟩
  · simp only [stIn2, List.mem_append] at h
    rcases h with h | h
    · obtain ⟨rfl, h2⟩ := m4_mem (B := base (ext2 p q) 2 w.heap.size) (ext := ext2 p q) h hz e4 e5 e6 e7
      exact ⟨by show 0 < 2; omega, h2⟩
    · obtain ⟨rfl, h2⟩ := m4_mem (B := base (ext2 p q) 2 w.heap.size) (ext := ext2 p q) h hx e0 e1 e2 e3
      exact ⟨by show 1 < 2; omega, h2⟩
  · have : r' = 0 ∨ r' = 1 := by have : r' < 2 := hr; omega
    rcases this with rfl | rfl
    · exact hz.c0.lt
    · exact hx.c0.lt
end Go.Proofs.Ytjdjhccefnffmaa.LX
