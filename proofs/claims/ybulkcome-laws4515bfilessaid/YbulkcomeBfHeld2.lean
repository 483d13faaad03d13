import Derived.Test.YbulkcomeBfHeld
namespace Go.Proofs.Ybulkcome
open Go.RowKit

abbrev Job := Option (Nat × Dat)
def held : Job → Value
  | none => .pointer none
  | some (b, _) => .pointer (some ⟨b, 0, none⟩)
def cN (o : Job) (h : Nat) : Nat := match o with
  | none => 0
  | some (_, d) => if whereOf d = h then 1 else 0
def cC (o : Job) (h x : Nat) : Nat := match o with
  | none => 0
  | some (b, d) => if whereOf d = h ∧ b = x then 1 else 0
/-- a held job, not yet filed | filed -/
def Raw (w : World) (ρ : Nat → Nat) (N : Nat) : Job → Prop
  | none => True
  | some (b, d) => JobD w b d ∧ ρ b = 30 ∧ b < N
def Filed (w : World) (sel : Nat) : Job → Prop
  | none => True
  | some (b, d) => ∃ r, JobD w b (rekey sel d r)
def Apart : Job → Job → Prop
  | some (b, _), some (b', _) => b ≠ b'
  | _, _ => True
def tagX (ρ : Nat → Nat) (k : Nat) : Prop := ρ k = 0 ∨ ρ k = 30 ∨ (10 ≤ ρ k ∧ ρ k < 13)

/-- how far the filing has come -/
def FS (ρ0 : Nat → Nat) (w0 : World) (B ob sel : Nat) (n0 : Nat → Nat) (g0 : Nat → Nat → Nat) (om os : Job) (w : World) : Prop :=
  ∃ ρ V n g, (∀ b, b < w0.heap.size → ρ b = ρ0 b) ∧ Hp ρ w B ob sel V n g ∧ (∀ h, h < 3 → n h = n0 h + cN om h + cN os h) ∧ (∀ h, h < 3 → ∀ x, cnt (n h) (g h) x = cnt (n0 h) (g0 h) x + cC om h x + cC os h x) ∧
    Fr (tagX ρ0) w0 w ∧ w.cell? ⟨ob, 6, none⟩ = w0.cell? ⟨ob, 6, none⟩

theorem cnt_snoc (n : Nat) (g : Nat → Nat) (b x : Nat) : cnt (n + 1) (upd g n b) x = cnt n g x + if b = x then 1 else 0 := by
  show cnt n (upd g n b) x + (if upd g n b n = x then 1 else 0) = _
  rw [cnt_congr (n := n) (g := upd g n b) (h := g) x (fun k hk => by unfold upd; rw [if_neg (by omega)])]
  simp [upd]

theorem whereOf_lt (d : Dat) : whereOf d < 3 := by unfold whereOf; split; (split; omega; split <;> omega); omega

theorem cN_le (o : Job) (h : Nat) : cN o h ≤ 1 := by
  unfold cN; split
  · omega
  · split <;> omega

/-- one more job is filed, and its place emptied -/
theorem filed_step {ρ0 ρ : Nat → Nat} {w0 w w' : World} {B ob sel : Nat} {n0 n : Nat → Nat} {g0 g : Nat → Nat → Nat} {V : Nat → Value} {om os om' os' : Job} {b : Nat} {d : Dat}
    (hρ : ∀ b, b < w0.heap.size → ρ b = ρ0 b) (hp : Hp ρ w B ob sel V n g) (hn : ∀ h, h < 3 → n h = n0 h + cN om h + cN os h) (hcn : ∀ h, h < 3 → ∀ x, cnt (n h) (g h) x = cnt (n0 h) (g0 h) x + cC om h x + cC os h x)
    (hfr : Fr (tagX ρ0) w0 w) (h6 : w.cell? ⟨ob, 6, none⟩ = w0.cell? ⟨ob, 6, none⟩) (hb : ρ b = 30) {ρ' : Nat → Nat} {v' : Value} {g' : Nat → Nat}
    (hρ' : ∀ b, b < w.heap.size → ρ' b = ρ b) (hp' : Hp ρ' w' B ob sel (updV V (whereOf d) v') (updV n (whereOf d) (n (whereOf d) + 1)) (updV g (whereOf d) g'))
    (hc' : ∀ x, cnt (n (whereOf d) + 1) g' x = cnt (n (whereOf d) + 1) (upd (g (whereOf d)) (n (whereOf d)) b) x) (hfr' : Fr (fun k => k = ob ∨ k = b ∨ ρ k = 10 + whereOf d) w w')
    (h6' : ∀ o, 4 ≤ o → w'.cell? ⟨ob, o, none⟩ = w.cell? ⟨ob, o, none⟩)
    (hN : ∀ h, cN om' h + cN os' h = cN om h + cN os h + cN (some (b, d)) h) (hC : ∀ h x, cC om' h x + cC os' h x = cC om h x + cC os h x + cC (some (b, d)) h x) (o : Nat) (ho : o = 4 ∨ o = 5) :
    FS ρ0 w0 B ob sel n0 g0 om' os' (w'.setCell ⟨ob, o, none⟩ (.pointer none)) := by
  have hw3 : whereOf d < 3 := by unfold whereOf; split; (split; omega; split <;> omega); omega
  refine ⟨ρ', updV V (whereOf d) v', updV n (whereOf d) (n (whereOf d) + 1), updV g (whereOf d) g', fun k hk => (hρ' k (Nat.lt_of_lt_of_le hk hfr.size)).trans (hρ k hk), ?_, ?_, ?_, ?_, ?_⟩
  · -- the order's own place
    have hco : ∀ j, j ≠ o → (w'.setCell ⟨ob, o, none⟩ (.pointer none)).cell? ⟨ob, j, none⟩ = w'.cell? ⟨ob, j, none⟩ := fun j hj => cell_other _ (by omega)
    have hbu := But.setCell ob o w' (.pointer none)
    refine ⟨hp'.rob, Nat.le_trans hp'.hB hbu.size, by rw [hco 0 (by omega)]; exact hp'.key, fun h hh => by rw [hco (1 + h) (by omega)]; exact hp'.hc h hh, fun j => by rw [World.frozen?_setCell]; exact hp'.fo j, fun h hh => ?_, hp'.hr, fun h hh k hk => ?_⟩
    · refine own_keep (hp'.ho h hh) fun q hq => hbu.block q (own_lt (hp'.ho h hh) hq).1 fun e => ?_
      have := hp'.hr h hh q hq
      rw [e, hp'.rob] at this
      omega
    · refine ⟨(hp'.jobs h hh k hk).1.but hbu fun e => ?_, (hp'.jobs h hh k hk).2⟩
      have := (hp'.jobs h hh k hk).2
      rw [e, hp'.rob] at this
      omega
  · intro h hh
    have e1 := hn h hh
    have e2 := hN h
    by_cases e : h = whereOf d
    · subst e
      rw [updV_same]
      have e3 : cN (some (b, d)) (whereOf d) = 1 := by simp [cN]
      omega
    · rw [updV_other _ _ e]
      have e3 : cN (some (b, d)) h = 0 := by unfold cN; simp only; rw [if_neg (fun e2 => e e2.symm)]
      omega
  · intro h hh x
    have e1 := hcn h hh x
    have e2 := hC h x
    by_cases e : h = whereOf d
    · subst e
      rw [updV_same, updV_same, hc' x, cnt_snoc]
      have e3 : cC (some (b, d)) (whereOf d) x = if b = x then 1 else 0 := by simp [cC]
      omega
    · rw [updV_other _ _ e, updV_other _ _ e]
      have e3 : cC (some (b, d)) h x = 0 := by unfold cC; simp only; rw [if_neg (fun e2 => e e2.1.symm)]
      omega
  · have h1 : Fr (tagX ρ0) w0 w' := ⟨hfr'.os.trans hfr.os, hfr'.tape.trans hfr.tape, hfr'.output.trans hfr.output, Nat.le_trans hfr.size hfr'.size, fun k hk hx => by
      rw [hfr'.block k (Nat.lt_of_lt_of_le hk hfr.size) ?_]
      · exact hfr.block k hk hx
      · rintro (e | e | e)
        · exact hx (Or.inl (by rw [← hρ k hk, e]; exact hp.rob))
        · exact hx (Or.inr (Or.inl (by rw [← hρ k hk, e]; exact hb)))
        · exact hx (Or.inr (Or.inr (by rw [← hρ k hk, e]; omega)))⟩
    refine h1.trans_but (But.setCell ob o w' _) fun hl => Or.inl ?_
    rw [← hρ ob hl]
    exact hp.rob
  · rw [cell_other _ (by omega), h6' 6 (by omega), h6]

theorem FS.drewN {ρ0 : Nat → Nat} {w0 w : World} {B ob sel : Nat} {n0 : Nat → Nat} {g0 : Nat → Nat → Nat} {om os : Job} (h : FS ρ0 w0 B ob sel n0 g0 om os w) (k : Nat) : FS ρ0 w0 B ob sel n0 g0 om os (w.drewN k) := by
  obtain ⟨ρ, V, n, g, h1, h2, h3, h4, h5, h6⟩ := h
  exact ⟨ρ, V, n, g, h1, h2.keep (X := fun _ => False) (Fr.of_below (bdrewN (Below.refl _ _) k)) (fun h => h) (fun _ _ _ _ h => h) (fun b _ hb => hb.below (bdrewN (Below.refl _ _) k)), h3, h4, h5.trans (Fr.of_below (bdrewN (Below.refl _ _) k)), h6⟩

/-- where the loop over the two places stands -/
def At (ρ0 : Nat → Nat) (w0 : World) (B ob sel : Nat) (n0 : Nat → Nat) (g0 : Nat → Nat → Nat) (hm hs : Job) (k : Nat) (w : World) : Prop :=
  (k = 0 ∧ FS ρ0 w0 B ob sel n0 g0 none none w ∧ w.cell? ⟨ob, 4, none⟩ = some (held hm) ∧ w.cell? ⟨ob, 5, none⟩ = some (held hs) ∧ Raw w ρ0 w0.heap.size hm ∧ Raw w ρ0 w0.heap.size hs) ∨
  (k = 1 ∧ FS ρ0 w0 B ob sel n0 g0 hm none w ∧ w.cell? ⟨ob, 4, none⟩ = some (.pointer none) ∧ w.cell? ⟨ob, 5, none⟩ = some (held hs) ∧ Filed w sel hm ∧ Raw w ρ0 w0.heap.size hs) ∨
  (k = 2 ∧ FS ρ0 w0 B ob sel n0 g0 hm hs w ∧ w.cell? ⟨ob, 4, none⟩ = some (.pointer none) ∧ w.cell? ⟨ob, 5, none⟩ = some (.pointer none) ∧ Filed w sel hm ∧ Filed w sel hs)

theorem index57_0 (x0 x1 : Value) (w : World) : (Instr.index 57 (.agg #[x0, x1]) (.int .i64 0)).run Yba.prog w = .ok x0 w := by kernel_rfl
theorem index57_1 (x0 x1 : Value) (w : World) : (Instr.index 57 (.agg #[x0, x1]) (.int .i64 1)).run Yba.prog w = .ok x1 w := by kernel_rfl

set_option maxHeartbeats 2000000 in
theorem fileHeld_any (ρ0 : Nat → Nat) (B ob sel : Nat) (V0 : Nat → Value) (n0 : Nat → Nat) (g0 : Nat → Nat → Nat) (hm hs : Job) (w0 : World) (hsel : sel < 4) (hh : Hp ρ0 w0 B ob sel V0 n0 g0) (hn : ∀ h, h < 3 → n0 h ≤ 400)
    (hc4 : w0.cell? ⟨ob, 4, none⟩ = some (held hm)) (hc5 : w0.cell? ⟨ob, 5, none⟩ = some (held hs)) (hrm : Raw w0 ρ0 w0.heap.size hm) (hrs : Raw w0 ρ0 w0.heap.size hs) (hap : Apart hm hs) :
    Calls Yba.prog 8 #[.pointer (some ⟨ob, 0, none⟩)] w0 fun e w' => e = .returned (.tuple #[]) ∧ FS ρ0 w0 B ob sel n0 g0 hm hs w' ∧ w'.cell? ⟨ob, 4, none⟩ = some (.pointer none) ∧ w'.cell? ⟨ob, 5, none⟩ = some (.pointer none) ∧ Filed w' sel hm ∧ Filed w' sel hs := by
  have HH := hide hh
  have HN := hide hn
  have HRM := hide hrm
  have HRS := hide hrs
  have HAP := hide hap
  have i0 := index57_0
  have i1 := index57_1
  clear hh hn hrm hrs hap
  go_enter Yba.func8, Yba.ntmps8
  go_wp2_with fail
  go_quiet (fail)
  go_wp2_with fail
  go_loopw [11] (fun t wr => ∃ k : Nat, k ≤ 2 ∧ t = .int .i64 k ∧ At ρ0 w0 B ob sel n0 g0 hm hs k wr) (fun t _ => 2 - (intOf t).toNat)
  case atStart =>
    refine ⟨0, by decide, rfl, Or.inl ⟨rfl, FS.drewN ⟨ρ0, V0, n0, g0, fun _ _ => rfl, HH.out, fun _ _ => rfl, fun _ _ _ => rfl, Fr.refl _ _, rfl⟩ _, hc4, hc5, ?_, ?_⟩⟩
    · cases hm with
      | none => trivial
      | some p => exact ⟨HRM.out.1.below (bdrewN (Below.refl _ _) _), HRM.out.2⟩
    · cases hs with
      | none => trivial
      | some p => exact ⟨HRS.out.1.below (bdrewN (Below.refl _ _) _), HRS.out.2⟩
  case round =>
    obtain ⟨k, hk, rfl, hat⟩ := hrel
    rcases hat with ⟨rfl, hfs, h4, h5, hrm, hrs⟩ | ⟨rfl, hfs, h4, h5, hfm, hrs⟩ | ⟨rfl, hfs, h4, h5, hfm, hfs2⟩
    · cases hm with
      | none =>
        have HF := hide (And.intro hfs (And.intro h4 (And.intro h5 hrs)))
        simp only [held] at h4
        clear hfs h5 hrs hrm
        go_wp2
        obtain ⟨q1, q2, q3, q4⟩ := HF.out
        exact ⟨⟨1, by decide, rfl, Or.inr (Or.inl ⟨rfl, q1, q2, q3, trivial, q4⟩)⟩, by simp [intOf]⟩
      | some p =>
        obtain ⟨b, d⟩ := p
        simp only [held] at h4
        have HF := hide (And.intro hfs (And.intro h5 (And.intro hrm hrs)))
        clear hfs h5 hrm hrs
        go_wp2_with fail
        obtain ⟨⟨ρ, V, n, g, f1, f2, f3, f4, f5, f6⟩, h5, hraw, hrs⟩ := HF.out
        have hrb : ρ b = 30 := by rw [f1 b hraw.2.2]; exact hraw.2.1
        have hfile := file_any ρ B ob sel b V n g d wr hsel f2 hraw.1 hrb (fun h hh => by
          have e1 := f3 h hh
          have e2 := HN.out h hh
          have e3 := cN_le none h
          have e4 := cN_le none h
          omega)
        refine hfile.mono ?_
        clear hfile
        rintro e w2 ⟨rfl, ρ', v', g', r, c1, c2, c3, c4, c5, c6⟩
        have s0 : w2.cell? ⟨ob, 4, none⟩ = some (.pointer (some ⟨b, 0, none⟩)) := by rw [c6 4 (by decide)]; exact h4
        have s1 := c2.fo 4
        have hrob : ρ ob = 0 := f2.rob
        have hne : b ≠ ob := by intro e; rw [e, hrob] at hrb; exact absurd hrb (by decide)
        have hfin : FS ρ0 w0 B ob sel n0 g0 (some (b, d)) none (w2.setCell ⟨ob, 4, none⟩ (.pointer none)) :=
          filed_step f1 f2 f3 f4 f5 f6 hrb c1 c2 c3 c5 c6 (by intro h; simp [cN]) (by intro h x; simp [cC]) 4 (Or.inl rfl)
        have hc5' : (w2.setCell ⟨ob, 4, none⟩ (.pointer none)).cell? ⟨ob, 5, none⟩ = some (held hs) := by rw [cell_other _ (by omega), c6 5 (by decide)]; exact h5
        have hc4' : (w2.setCell ⟨ob, 4, none⟩ (.pointer none)).cell? ⟨ob, 4, none⟩ = some (.pointer none) := World.cell?_setCell_same _ _ _ s0
        have hfm : Filed (w2.setCell ⟨ob, 4, none⟩ (.pointer none)) sel (some (b, d)) := ⟨r, c4.but (But.setCell ob 4 w2 _) hne⟩
        have hrs' : Raw (w2.setCell ⟨ob, 4, none⟩ (.pointer none)) ρ0 w0.heap.size hs := by
          cases hs with
          | none => trivial
          | some p =>
            obtain ⟨b', d'⟩ := p
            have hb' : ρ b' = 30 := by rw [f1 b' hrs.2.2]; exact hrs.2.1
            have hne' : b' ≠ ob := by intro e; rw [e, hrob] at hb'; exact absurd hb' (by decide)
            refine ⟨(hrs.1.fr c5 ?_).but (But.setCell ob 4 w2 _) hne', hrs.2⟩
            rintro (e | e | e)
            · exact hne' e
            · exact HAP.out e.symm
            · have := whereOf_lt d; omega
        have HFIN := hide (And.intro hfin (And.intro hc4' (And.intro hc5' (And.intro hfm hrs'))))
        clear hfin hc4' hc5' hfm hrs' c1 c2 c3 c4 c5 c6 f1 f2 f3 f4 f5 f6 hraw hrs h5 HF h4 hrb hrob
        go_wp2
        obtain ⟨q1, q2, q3, q4, q5⟩ := HFIN.out
        exact ⟨⟨1, by decide, rfl, Or.inr (Or.inl ⟨rfl, q1, q2, q3, q4, q5⟩)⟩, by simp [intOf]⟩
    · cases hs with
      | none =>
        have HF := hide (And.intro hfs (And.intro h4 (And.intro h5 hfm)))
        simp only [held] at h5
        clear hfs h4 hrs hfm
        go_wp2
        obtain ⟨q1, q2, q3, q4⟩ := HF.out
        exact ⟨⟨2, by decide, rfl, Or.inr (Or.inr ⟨rfl, q1, q2, q3, q4, trivial⟩)⟩, by simp [intOf]⟩
      | some p =>
        obtain ⟨b, d⟩ := p
        simp only [held] at h5
        have HF := hide (And.intro hfs (And.intro h4 (And.intro hrs hfm)))
        clear hfs h4 hrs hfm
        go_wp2_with fail
        obtain ⟨⟨ρ, V, n, g, f1, f2, f3, f4, f5, f6⟩, h4, hraw, hfm⟩ := HF.out
        have hrb : ρ b = 30 := by rw [f1 b hraw.2.2]; exact hraw.2.1
        have hfile := file_any ρ B ob sel b V n g d wr hsel f2 hraw.1 hrb (fun h hh => by
          have e1 := f3 h hh
          have e2 := HN.out h hh
          have e3 := cN_le hm h
          have e4 := cN_le none h
          omega)
        refine hfile.mono ?_
        clear hfile
        rintro e w2 ⟨rfl, ρ', v', g', r, c1, c2, c3, c4, c5, c6⟩
        have s0 : w2.cell? ⟨ob, 5, none⟩ = some (.pointer (some ⟨b, 0, none⟩)) := by rw [c6 5 (by decide)]; exact h5
        have s1 := c2.fo 5
        have hrob : ρ ob = 0 := f2.rob
        have hne : b ≠ ob := by intro e; rw [e, hrob] at hrb; exact absurd hrb (by decide)
        have hfin : FS ρ0 w0 B ob sel n0 g0 hm (some (b, d)) (w2.setCell ⟨ob, 5, none⟩ (.pointer none)) :=
          filed_step f1 f2 f3 f4 f5 f6 hrb c1 c2 c3 c5 c6 (by intro h; simp [cN]) (by intro h x; simp [cC]) 5 (Or.inr rfl)
        have hc4' : (w2.setCell ⟨ob, 5, none⟩ (.pointer none)).cell? ⟨ob, 4, none⟩ = some (.pointer none) := by rw [cell_other _ (by omega), c6 4 (by decide)]; exact h4
        have hc5' : (w2.setCell ⟨ob, 5, none⟩ (.pointer none)).cell? ⟨ob, 5, none⟩ = some (.pointer none) := World.cell?_setCell_same _ _ _ s0
        have hfs' : Filed (w2.setCell ⟨ob, 5, none⟩ (.pointer none)) sel (some (b, d)) := ⟨r, c4.but (But.setCell ob 5 w2 _) hne⟩
        have hfm' : Filed (w2.setCell ⟨ob, 5, none⟩ (.pointer none)) sel hm := by
          cases hm with
          | none => trivial
          | some p =>
            obtain ⟨b', d'⟩ := p
            obtain ⟨r', hj'⟩ := hfm
            have hb' : ρ b' = 30 := by rw [f1 b' HRM.out.2.2]; exact HRM.out.2.1
            have hne' : b' ≠ ob := by intro e; rw [e, hrob] at hb'; exact absurd hb' (by decide)
            refine ⟨r', (hj'.fr c5 ?_).but (But.setCell ob 5 w2 _) hne'⟩
            rintro (e | e | e)
            · exact hne' e
            · exact HAP.out e
            · have := whereOf_lt d; omega
        have HFIN := hide (And.intro hfin (And.intro hc4' (And.intro hc5' (And.intro hfm' hfs'))))
        clear hfin hc4' hc5' hfm' hfs' c1 c2 c3 c4 c5 c6 f1 f2 f3 f4 f5 f6 hraw hfm h4 HF h5 hrb hrob
        go_wp2
        obtain ⟨q1, q2, q3, q4, q5⟩ := HFIN.out
        exact ⟨⟨2, by decide, rfl, Or.inr (Or.inr ⟨rfl, q1, q2, q3, q4, q5⟩)⟩, by simp [intOf]⟩
    · have HF := hide (And.intro hfs (And.intro h4 (And.intro h5 (And.intro hfm hfs2))))
      clear hfs h4 h5 hfm hfs2
      go_wp2
      go_end0
      obtain ⟨q1, q2, q3, q4, q5⟩ := HF.out
      exact ⟨rfl, q1, q2, q3, q4, q5⟩
end Go.Proofs.Ybulkcome
