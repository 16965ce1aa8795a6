/- Texts of this claim, laid together. -/
import Derived.Test.YtgbliniamkpocaaDoorG13
import Derived.Test.YtgbliniamkpocaaDoorJpEd3
import Derived.Test.YtgbliniamkpocaaDoorJpGn
/- Two ways of keys that part. -/
namespace Go.Proofs.YtgbliniamkpocaaDoor.Pure
open Go.RowKit Go.Proofs.YtgbliniamkpocaaDoor.PPl Go.Proofs.YtgbliniamkpocaaDoor.Jp Go.Proofs.YtgbliniamkpocaaDoorW.PrintWords

/-! ### Indices of one value are of one text -/
def dv (a : Nat) (l : List Int) : Nat := l.foldl (fun a c => 10 * a + (c - 48).toNat) a
theorem dv_snoc (a : Nat) (l : List Int) (c : Int) : dv a (l ++ [c]) = 10 * dv a l + (c - 48).toNat := by
  unfold dv
  rw [List.foldl_append]
  rfl
/-- No nought ahead. -/
def Cn (l : List Int) : Prop := ∀ c r, l = c :: r → c ≠ 48
theorem cn_pos : ∀ (n : Nat) (l : List Int), l.length = n → l ≠ [] → Cn l → (∀ x ∈ l, 48 ≤ x ∧ x ≤ 57) → 0 < dv 0 l := by
  intro n
  induction n with
  | zero => intro l h0 hne; exact absurd (List.eq_nil_of_length_eq_zero h0) hne
  | succ n ih =>
    intro l hl hne hc hd
    obtain ⟨l1, c, rfl⟩ : ∃ l1 c, l = l1 ++ [c] := ⟨l.dropLast, l.getLast hne, (List.dropLast_concat_getLast hne).symm⟩
    rw [dv_snoc]
    by_cases h1 : l1 = []
    · subst h1
      have := hc c [] rfl
      have := hd c (by simp)
      unfold dv
      simp
      omega
    · have := ih l1 (by simpa using hl) h1 (fun x r hx => hc x (r ++ [c]) (by rw [hx]; rfl)) (fun x hx => hd x (by simp [hx]))
      omega
theorem cn_inj : ∀ (n : Nat) (l m : List Int), l.length ≤ n → Cn l → Cn m → (∀ x ∈ l, 48 ≤ x ∧ x ≤ 57) → (∀ x ∈ m, 48 ≤ x ∧ x ≤ 57) → dv 0 l = dv 0 m → l = m := by
  intro n
  induction n with
  | zero =>
    intro l m hl _ hm _ hdm h
    obtain rfl := List.eq_nil_of_length_eq_zero (Nat.le_zero.1 hl)
    by_cases h1 : m = []
    · exact h1.symm
    · have := cn_pos _ m rfl h1 hm hdm
      have h0 : dv 0 ([] : List Int) = 0 := rfl
      omega
  | succ n ih =>
    intro l m hl hc hm hdl hdm h
    by_cases h0 : l = []
    · subst h0
      by_cases h1 : m = []
      · exact h1.symm
      · have := cn_pos _ m rfl h1 hm hdm
        have h0 : dv 0 ([] : List Int) = 0 := rfl
        omega
    · by_cases h1 : m = []
      · subst h1
        have := cn_pos _ l rfl h0 hc hdl
        have h0 : dv 0 ([] : List Int) = 0 := rfl
        omega
      · obtain ⟨l1, c, rfl⟩ : ∃ l1 c, l = l1 ++ [c] := ⟨l.dropLast, l.getLast h0, (List.dropLast_concat_getLast h0).symm⟩
        obtain ⟨m1, d, rfl⟩ : ∃ l1 c, m = l1 ++ [c] := ⟨m.dropLast, m.getLast h1, (List.dropLast_concat_getLast h1).symm⟩
        rw [dv_snoc, dv_snoc] at h
        have hc1 := hdl c (by simp)
        have hd1 := hdm d (by simp)
        obtain rfl : c = d := by omega
        rw [ih l1 m1 (by simpa using hl) (fun x r hx => hc x (r ++ [c]) (by rw [hx]; rfl)) (fun x r hx => hm x (r ++ [c]) (by rw [hx]; rfl)) (fun x hx => hdl x (by simp [hx])) (fun x hx => hdm x (by simp [hx])) (by omega)]
theorem ix_inj {l m : List Int} {k : Int} (h1 : ixR l = some k) (h2 : ixR m = some k) (hk : k < 288230376151711744) : l = m := by
  unfold ixR at h1 h2
  split at h1
  · cases h1
  split at h2
  · cases h2
  rename_i z1 z2
  obtain ⟨d1, g1⟩ := ixF_dec _ 0 k 0 (by omega) (.inl rfl) h1
  obtain ⟨d2, g2⟩ := ixF_dec _ 0 k 0 (by omega) (.inl rfl) h2
  have g1' : k = (dv 0 l : Int) := g1.resolve_right (fun h => by omega)
  have g2' : k = (dv 0 m : Int) := g2.resolve_right (fun h => by omega)
  have key : ∀ (l : List Int), ¬ (l.length = 0 ∨ 1 < l.length ∧ l.getD 0 0 = 48) → ∃ l1 c, l = l1 ++ [c] ∧ Cn l1 := by
    intro l hz
    have hne : l ≠ [] := fun e => hz (.inl (by rw [e]; rfl))
    refine ⟨l.dropLast, l.getLast hne, (List.dropLast_concat_getLast hne).symm, fun c r hx hc => hz (.inr ?_)⟩
    have hl := List.dropLast_concat_getLast hne
    rw [hx] at hl
    rw [← hl]
    subst hc
    simp
  obtain ⟨l1, c, rfl, c1⟩ := key l z1
  obtain ⟨m1, d, rfl, c2⟩ := key m z2
  rw [g2', dv_snoc, dv_snoc] at g1'
  have hc1 := d1 c (by simp)
  have hd1 := d2 d (by simp)
  obtain rfl : c = d := by omega
  rw [cn_inj _ l1 m1 (Nat.le_refl _) c1 c2 (fun x hx => d1 x (by simp [hx])) (fun x hx => d2 x (by simp [hx])) (by omega)]
theorem brk_inj {a b : List Int} {k : Int} (h1 : brkL a = some k) (h2 : brkL b = some k) (hk : k < 288230376151711744) : a = b := by
  unfold brkL at h1 h2
  split at h1
  case isFalse => cases h1
  split at h2
  case isFalse => cases h2
  rename_i z1 z2
  have hc := ix_inj h1 h2 hk
  have la := cutI_len (L := a) (a := 1) (b := a.length - 1) (by omega)
  have lb := cutI_len (L := b) (a := 1) (b := b.length - 1) (by omega)
  have hl : a.length = b.length := by rw [hc] at la; omega
  refine eq_of_gb hl (fun k hk => ?_)
  by_cases h0 : k = 0
  · subst h0
    rw [z1.2.1, z2.2.1]
  by_cases h9 : k = a.length - 1
  · subst h9
    rw [z1.2.2, hl, z2.2.2]
  · have e1 := cutI_gb (L := a) (a := 1) (b := a.length - 1) (k := k - 1) (by omega)
    have e2 := cutI_gb (L := b) (a := 1) (b := b.length - 1) (k := k - 1) (by omega)
    rw [show 1 + (k - 1) = k by omega] at e1 e2
    rw [← e1, ← e2, hc]
/-- Two lists of keys part. -/
def prt : List (List Int) → List (List Int) → Bool
  | a :: r, b :: s => if a = b then prt r s else true
  | _, _ => false
theorem pt_of {L : List Int} (hL : L.length < 288230376151711744) : ∀ (keys other : List (List Int)) (p q q2 : S35), Gd L p → Wy L p keys q → Wy L p other q2 → prt keys other = true → Pt L p keys q other q2 := by
  intro keys
  induction keys with
  | nil =>
    intro other p q q2 _ _ _ h
    unfold prt at h
    cases h
  | cons key r ih =>
    intro other p q q2 hg h1 h2 hp
    cases other with
    | nil =>
      unfold prt at hp
      cases hp
    | cons key2 s =>
      obtain ⟨kid, a1, a2⟩ := h1
      obtain ⟨kid2, b1, b2⟩ := h2
      unfold prt at hp
      by_cases he : key = key2
      · subst he
        rw [if_pos rfl] at hp
        rw [a1] at b1
        injection b1 with b1
        subst b1
        have hI := ih s kid q q2 (hg.step hL a1) a2 b2 hp
        rcases stp_some hg.kids hL a1 with ⟨h6, m, x, g1, g2, g3, hm⟩ | ⟨h5, k, hb, hm⟩
        · exact .inObj p key r q s q2 m x kid h6 g1 g2 g3 hm hI
        · exact .inArr p key r q key s q2 k kid h5 hb hm hI
      · have l1 := Wy.ld hL r kid q (hg.step hL a1) a2
        have l2 := Wy.ld hL s kid2 q2 (hg.step hL b1) b2
        rcases stp_some hg.kids hL a1 with ⟨h6, m, x, g1, g2, g3, hm⟩ | ⟨h5, k, hb, hm⟩
        · rcases stp_some hg.kids hL b1 with ⟨_, m2, x2, k1, k2, k3, hm2⟩ | ⟨h5, _⟩
          · refine .obj p key r q key2 s q2 m m2 x2 kid kid2 h6 (fun e => ?_) hm l1 k1 k2 k3 hm2 l2
            subst e
            rw [g1] at k1
            injection k1 with k1
            subst k1
            rw [g2] at k2
            injection k2 with k2
            exact he k2
          · omega
        · have h6 : ¬ p.f0 = 6 := by omega
          unfold stp at a1 b1
          rw [if_neg h6, if_pos h5] at a1 b1
          have hkl := hg.kids h5
          cases e1 : brkL key with
          | none => rw [e1] at a1; cases a1
          | some m =>
            cases e2 : brkL key2 with
            | none => rw [e2] at b1; cases b1
            | some m2 =>
              rw [e1] at a1
              rw [e2] at b1
              simp only at a1 b1
              split at a1
              case isFalse => cases a1
              split at b1
              case isFalse => cases b1
              rename_i q1 q3
              have hmm : m2 ≠ m := fun e => he (brk_inj e1 (by rw [← e]; exact e2) (by omega))
              obtain ⟨k, hb1, hk1⟩ := brk_of e1 (.inr (by omega))
              obtain ⟨k2, hb2, hk2⟩ := brk_of e2 (.inr (by omega))
              obtain rfl : m = (k : Int) := hk1.resolve_right (fun h => by omega)
              obtain rfl : m2 = (k2 : Int) := hk2.resolve_right (fun h => by omega)
              exact .arr p key r q key2 s q2 k k2 kid kid2 h5 (fun e => hmm (by rw [e])) (by simpa using a1) l1 hb2 (by simpa using b1) l2
end Go.Proofs.YtgbliniamkpocaaDoor.Pure
/- jsonparser.Set, where the keys lead to a value: the text with the value's bytes replaced. -/
namespace Go.Proofs.YtgbliniamkpocaaDoor.Jp
open Go.RowKit Go.Proofs.YtgbliniamkpocaaDoorW.PrintWords Go.Proofs.YtgbliniamkpocaaDoor.Kit Go.Proofs.YtgbliniamkpocaaDoor.Pure Go.Proofs.YtgbliniamkpocaaDoor.PPl

set_option maxRecDepth 100000 in
theorem inf5 : ∃ i, Tryd.prog.info? 5 = some i ∧ i.zero = some (.int .u8 0) ∧ i.size = 1 ∧ i.bytes = 1 := ⟨_, rfl, rfl, rfl, rfl⟩
set_option maxRecDepth 100000 in
/-- data[:b]. -/
theorem pre_cut (A : Option Addr) (n c b : Nat) (hb : b ≤ n) (hc : n ≤ c) : ∃ A', (∀ W : World, (Instr.slice 57 (.slice A n c) none (some (.int .i64 (b : Int))) none).run Tryd.prog W = .ok (.slice A' b c) W) ∧
    ∀ (W : World) (xs : List Int), ReadsInt W .u8 A n xs → ReadsInt W .u8 A' b (xs.take b) := by
  obtain ⟨i5, hi5, hz5, hsz5, hby5⟩ := inf5
  have hel : Tryd.prog.elem 57 = 5 := by simp [Program.elem, Tryd.underlying57]
  have hu : Tryd.prog.underlying 57 = some (.slice (Tryd.prog.elem 57)) := by rw [hel]; exact Tryd.underlying57
  refine ⟨if c = 0 then A else A.map (·.add 0), fun W => ?_, fun W xs h => ?_⟩
  · rw [run_slice_h W 57 A n c hu .i64 (b : Int) (by omega) (by omega), hel]
    simp [sizeOf, typeInfo, hi5, hsz5, sliced, Result.andThen]
  · have := (h.drop_ 0 (by omega) hc).take_ b (by omega)
    rw [List.drop_zero] at this
    exact this
set_option maxRecDepth 100000 in
/-- data[e:]. -/
theorem suf_cut (A : Option Addr) (n c e : Nat) (he : e ≤ n) (hc : n ≤ c) : ∃ A', (∀ W : World, (Instr.slice 57 (.slice A n c) (some (.int .i64 (e : Int))) none none).run Tryd.prog W = .ok (.slice A' (n - e) (c - e)) W) ∧
    ∀ (W : World) (xs : List Int), ReadsInt W .u8 A n xs → ReadsInt W .u8 A' (n - e) (xs.drop e) := by
  obtain ⟨i5, hi5, hz5, hsz5, hby5⟩ := inf5
  have hel : Tryd.prog.elem 57 = 5 := by simp [Program.elem, Tryd.underlying57]
  have hu : Tryd.prog.underlying 57 = some (.slice (Tryd.prog.elem 57)) := by rw [hel]; exact Tryd.underlying57
  refine ⟨if c = e then A else A.map (·.add e), fun W => ?_, fun W xs h => h.drop_ e he hc⟩
  rw [run_slice_l W 57 A n c hu .i64 (e : Int) (by omega) (by omega), hel]
  simp [sizeOf, typeInfo, hi5, hsz5, sliced, Result.andThen]
set_option maxRecDepth 100000 in
/-- A piece of a buffer. -/
theorem buf_lh (g n lo hi : Nat) (h1 : lo ≤ hi) (h2 : hi ≤ n) : ∃ D, (∀ W : World, (Instr.slice 57 (.slice (some ⟨g, 0, none⟩) n n) (some (.int .i64 (lo : Int))) (some (.int .i64 (hi : Int))) none).run Tryd.prog W = .ok (.slice D (hi - lo) (n - lo)) W) ∧ (lo < n → D = some ⟨g, lo, none⟩) := by
  obtain ⟨i5, hi5, hz5, hsz5, hby5⟩ := inf5
  have hel : Tryd.prog.elem 57 = 5 := by simp [Program.elem, Tryd.underlying57]
  have hu : Tryd.prog.underlying 57 = some (.slice (Tryd.prog.elem 57)) := by rw [hel]; exact Tryd.underlying57
  refine ⟨if n = lo then some ⟨g, 0, none⟩ else some ⟨g, lo, none⟩, fun W => ?_, fun h => if_neg (by omega)⟩
  rw [run_slice_lh W 57 _ n n hu .i64 .i64 (lo : Int) (hi : Int) (by omega) (by omega) (by omega), hel]
  by_cases e : n = lo
  · simp [e, sizeOf, typeInfo, hi5, hsz5, sliced, Result.andThen, Addr.add]
  · simp [e, sizeOf, typeInfo, hi5, hsz5, sliced, Result.andThen, Addr.add]
    intro h
    exact h.symm
set_option maxRecDepth 100000 in
theorem buf_l (g n lo : Nat) (h1 : lo ≤ n) : ∃ D, (∀ W : World, (Instr.slice 57 (.slice (some ⟨g, 0, none⟩) n n) (some (.int .i64 (lo : Int))) none none).run Tryd.prog W = .ok (.slice D (n - lo) (n - lo)) W) ∧ (lo < n → D = some ⟨g, lo, none⟩) := by
  obtain ⟨i5, hi5, hz5, hsz5, hby5⟩ := inf5
  have hel : Tryd.prog.elem 57 = 5 := by simp [Program.elem, Tryd.underlying57]
  have hu : Tryd.prog.underlying 57 = some (.slice (Tryd.prog.elem 57)) := by rw [hel]; exact Tryd.underlying57
  refine ⟨if n = lo then some ⟨g, 0, none⟩ else some ⟨g, lo, none⟩, fun W => ?_, fun h => if_neg (by omega)⟩
  rw [run_slice_l W 57 _ n n hu .i64 (lo : Int) (by omega) (by omega), hel]
  by_cases e : n = lo
  · simp [e, sizeOf, typeInfo, hi5, hsz5, sliced, Result.andThen, Addr.add]
  · simp [e, sizeOf, typeInfo, hi5, hsz5, sliced, Result.andThen, Addr.add]
    intro h
    exact h.symm
theorem bo_reads {w : World} {g n : Nat} {l : List Int} (h : BO w g n l) (hl : l.length = n) (hm : n ≤ 9223372036854775807) : ReadsInt w .u8 (some ⟨g, 0, none⟩) n l := by
  obtain ⟨cur, t, h1, h2, h3, h4⟩ := h
  refine ⟨hl, hm, fun _ => ⟨_, rfl, fun j hj => ?_⟩⟩
  have e : (⟨g, 0, none⟩ : Addr).add j = ⟨g, j, none⟩ := by
    simp only [Addr.add]
    split <;> simp_all
  rw [e]
  exact (blk_cell h1 j).trans (h4 j (by omega))
theorem reads_blk {w : World} {A : Option Addr} {n : Nat} {xs : List Int} (h : ReadsInt w .u8 A n xs) (a : Addr) (e : A = some a) (hn : 0 < n) : a.block < w.heap.size := by
  obtain ⟨ad, e2, hc⟩ := h.2.2 hn
  rw [e] at e2
  injection e2 with e2
  subst e2
  have hb : (a.add 0).block = a.block := by unfold Addr.add; split <;> rfl
  have := World.block_lt_of_cell? w _ (hc 0 hn)
  rwa [hb] at this
/-- Bytes that stood in w2 are read behind a buffer's making and filling. -/
theorem reads_on {w2 w3 w4 : World} {A : Option Addr} {n : Nat} {xs : List Int} (h : ReadsInt w2 .u8 A n xs) (hb : Below w2.heap.size w2 w3) (hg : Gr w2.heap.size w3 w4) : ReadsInt w4 .u8 A n xs :=
  reads_gr (h.below hb) hg (fun a e hn => by have := reads_blk h a e hn; omega)
/-- What Set hands back. -/
def SetV (w : World) (R : List Int) (e' : Ending) (w' : World) : Prop :=
  Below w.heap.size w w' ∧ ∃ A' c', e' = .returned (.tuple #[.slice A' R.length c', .nilIface]) ∧ ReadsInt w' .u8 A' R.length R ∧ R.length ≤ c'
set_option maxHeartbeats 16000000 in
set_option maxRecDepth 100000 in
theorem setc_c {L F : List Int} {k : Int} {b e : Nat} (hbe : b ≤ e) (hel : e ≤ L.length) (A B K : Option Addr) (c cB nk ck : Nat) (w : World) (hnk : 0 < nk) (hkm : nk ≤ 9223372036854775807) (hr : ReadsInt w .u8 A L.length L) (hlc : L.length ≤ c) (hlm : L.length ≤ 1000000000000)
    (hF : ReadsInt w .u8 B F.length F) (hFc : F.length ≤ cB) (hFm : F.length ≤ 1000000000000)
    (hG : Calls Tryd.prog 68 #[cfg, .slice A L.length c, .slice K nk ck] (w.alloc (.cells #[.bool false, .bool false, .int .i64 0] 80)) (IgV (w.alloc (.cells #[.bool false, .bool false, .int .i64 0] 80)) L k b e)) :
    Calls Tryd.prog 55 #[cfg, .slice A L.length c, .slice B F.length cB, .slice K nk ck] w (SetV w (rep L b e F)) := by
  obtain ⟨i5, hi5, hz5, hsz5, hby5⟩ := inf5
  have hlen := rep_len (F := F) hbe hel
  obtain ⟨n, hn⟩ : ∃ n, n = b + F.length + (L.length - e) := ⟨_, rfl⟩
  obtain ⟨W, hW⟩ : ∃ W, W = w.alloc (.cells #[.bool false, .bool false, .int .i64 0] 80) := ⟨_, rfl⟩
  have hba : Below w.heap.size w W := by rw [hW]; exact below_alloc_ (Below.refl _ _) _
  obtain ⟨c0, c1, c2⟩ := CfgAt.box w
  rw [← hW] at hG c0 c1 c2
  obtain ⟨S1, hs1, hr1⟩ := pre_cut A L.length c b (by omega) hlc
  obtain ⟨S2, hs2, hr2⟩ := suf_cut A L.length c e hel hlc
  have HR := Lib.hid (And.intro hr hF)
  have HRS := Lib.hid (And.intro hr1 hr2)
  have HBA := Lib.hid hba
  have HN := Lib.hid hn
  have HL := Lib.hid hlen
  have HP := Lib.hid (And.intro hbe (And.intro hel (And.intro hlm hFm)))
  have HG := Lib.hid hG
  have n1 : (b : Int) + (F.length : Int) ≤ 4000000000000 := by omega
  have n2 : (b : Int) + ((L.length - e : Nat) : Int) ≤ 4000000000000 := by omega
  have n3 : (b : Int) + ((L.length - e : Nat) : Int) + (F.length : Int) ≤ 4000000000000 := by omega
  have z0 : ((nk : Int) == 0) = false := by simp; omega
  unfold cfg at HG ⊢
  clear hG hr hF hn hlen hr1 hr2 hba hlm hFm
  go_enter Tryd.func55, Tryd.ntmps55
  go_upto_region 3 with (fail)
  rw [← hW]
  clear hW
  go_wp2_with fail
  refine HG.out.mono ?_
  rintro e2 w2 ⟨hb2, A3, n3, c3, rfl, hr3⟩
  clear hr3
  have HB2 : Hid (Below w.heap.size w w2) := Lib.hid (below_step HBA.out hb2)
  have HR2 : Hid (ReadsInt w2 .u8 S1 b (L.take b) ∧ ReadsInt w2 .u8 B F.length F ∧ ReadsInt w2 .u8 S2 (L.length - e) (L.drop e)) := Lib.hid ⟨HRS.out.1 _ _ (HR.out.1.below HB2.out), HR.out.2.below HB2.out, HRS.out.2 _ _ (HR.out.1.below HB2.out)⟩
  clear hb2 HG HBA HR HRS c0 c1 c2
  obtain ⟨D1, hd1, hD1⟩ := buf_lh w2.heap.size n 0 b (Nat.zero_le _) (by have := HN.out; omega)
  obtain ⟨D2, hd2, hD2⟩ := buf_lh w2.heap.size n b (b + F.length) (by omega) (by have := HN.out; omega)
  obtain ⟨D3, hd3, hD3⟩ := buf_l w2.heap.size n (b + F.length) (by have := HN.out; omega)
  rw [Nat.sub_zero, Nat.sub_zero] at hd1
  rw [show b + F.length - b = F.length by omega, Int.natCast_add] at hd2
  rw [show n - (b + F.length) = L.length - e by have := HN.out; omega, Int.natCast_add] at hd3
  have hd1' : ∀ W : World, (Instr.slice 57 (.slice (some ⟨w2.heap.size, 0, none⟩) n n) (some (.int .i64 0)) (some (.int .i64 (b : Int))) none).run Tryd.prog W = .ok (.slice D1 b n) W := hd1
  have HD := Lib.hid (And.intro hD1 (And.intro hD2 hD3))
  clear hd1 hD1 hD2 hD3
  have hbl : (L.take b).length = b := by rw [List.length_take]; omega
  have hfl : (L.take b ++ F).length = b + F.length := by rw [List.length_append, hbl]
  have HBL := Lib.hid hbl
  have HFL := Lib.hid hfl
  clear hbl hfl
  go_wp2_with (first | (with_reducible refine wpList_make_full _ rfl _ _ 57 rfl 0 5 i5 (.int .u8 0) 1 Tryd.underlying57 hi5 hz5 hsz5 .i64 .i64 _ _ n rfl rfl ?hL ?hC ?hb2 ?hb3 (Nat.zero_le _) ?_; (case hL => have := HN.out; omega); (case hC => have := HN.out; omega); (case hb2 => rw [hby5]; have := HN.out; omega); (case hb3 => unfold maxLen; have := HN.out; omega); intro w3 hown hgrow; have HB3 := Lib.hid ((Below.refl _ _).grown hgrow (Nat.le_refl _) (fun _ h => by cases h)); have HO3 := Lib.hid (bo_of_own hown); clear hown hgrow) | (refine wpList_copy_bo rfl (.tmp 377) (.tmp 378) 57 57 rfl 5 Tryd.underlying57 (by kernel_rfl) _ _ _ _ _ _ rfl rfl (Nat.le_refl _) w2.heap.size n [] (L.take b) HO3.out ?hr1 ?hp1 ?hf1 ?_; (case hr1 => exact HR2.out.1.below HB3.out); (case hp1 => intro h; exact HD.out.1 (by have := HN.out; omega)); (case hf1 => have := HN.out; simp only [List.length_nil]; omega); intro w4 hb4 hg4; have HO4 := Lib.hid hb4; have HG4 := Lib.hid hg4; clear hb4 hg4) | (refine wpList_copy_bo rfl (.tmp 383) (.tmp 384) 57 57 rfl 5 Tryd.underlying57 (by kernel_rfl) _ _ _ _ _ _ rfl rfl (Nat.le_refl _) w2.heap.size n ([] ++ L.take b) F HO4.out ?hr2 ?hp2 ?hf2 ?_; (case hr2 => exact reads_on HR2.out.2.1 HB3.out HG4.out); (case hp2 => intro h; rw [List.nil_append, HBL.out]; exact HD.out.2.1 (by have := HN.out; omega)); (case hf2 => have := HN.out; rw [List.nil_append, HBL.out]; omega); intro w5 hb5 hg5; have HO5 := Lib.hid hb5; have HG5 := Lib.hid (HG4.out.trans hg5); clear hb5 hg5) | (refine wpList_copy_bo rfl (.tmp 388) (.tmp 389) 57 57 rfl 5 Tryd.underlying57 (by kernel_rfl) _ _ _ _ _ _ rfl rfl (Nat.le_refl _) w2.heap.size n ([] ++ L.take b ++ F) (L.drop e) HO5.out ?hr3 ?hp3 ?hf3 ?_; (case hr3 => exact reads_on HR2.out.2.2 HB3.out HG5.out); (case hp3 => intro h; rw [List.nil_append, HFL.out]; exact HD.out.2.2 (by have := HN.out; omega)); (case hf3 => have := HN.out; rw [List.nil_append, HFL.out]; omega); intro w6 hb6 hg6; have HO6 := Lib.hid hb6; have HG6 := Lib.hid (HG5.out.trans hg6); clear hb6 hg6))
  go_ret2
  have hRn : (rep L b e F).length = n := by rw [HL.out, HN.out]
  have hO : BO w6 w2.heap.size n (rep L b e F) := by
    have := HO6.out
    rw [List.nil_append] at this
    exact this
  refine ⟨?_, some ⟨w2.heap.size, 0, none⟩, n, (by rw [hRn]; rfl), by rw [hRn]; exact bo_reads hO hRn (by have := HN.out; omega), by omega⟩
  have h23 : Below w.heap.size w w3 := HB2.out.trans (HB3.out.mono HB2.out.size)
  exact h23.trans (HG6.out.below h23.size HB2.out.size)
end Go.Proofs.YtgbliniamkpocaaDoor.Jp
