/- jsonparser.unescapeConfig: all escapes of a string are read; what comes out does not hang on the buffer. -/
import Derived.Test.YtgbliniamkpocaaDoorG3
import Derived.LoopTactic
import Derived.Deep.LoopGhost
import Derived.OwnWalk
import Derived.Deep.QuietTactic
import Derived.BigQuiet
import Derived.Lib.IndexLaws
namespace Go.Proofs.YtgbliniamkpocaaDoor.Jp
open Go.RowKit Go.Proofs.YtgbliniamkpocaaDoorW.PrintWords Go.Proofs.YtgbliniamkpocaaDoor.Kit

/-- What bytes.IndexByte says of a backslash. -/
def ib (l : List Int) : Int := if bs0 l = l.length then -1 else (bs0 l : Int)
theorem ib_eq : ∀ (l : List Int), (∀ x ∈ l, 0 ≤ x ∧ x ≤ 255) → Lib.indexByte (Lib.bytesOf l) 92 = ib l
  | [], _ => rfl
  | c :: r, h => by
    have hc := h c (by simp)
    have ih := ib_eq r (fun x hx => h x (by simp [hx]))
    have hle := bs0_le r
    have e : (UInt8.ofNat c.toNat == 92) = decide (c = 92) := by
      rw [Bool.eq_iff_iff]
      simp only [beq_iff_eq, decide_eq_true_eq]
      constructor
      · intro h2
        have := congrArg UInt8.toNat h2
        simp at this
        omega
      · rintro rfl
        rfl
    show (if (UInt8.ofNat c.toNat == 92) = true then (0 : Int) else if (Lib.indexByte (Lib.bytesOf r) 92 == -1) = true then -1 else Lib.indexByte (Lib.bytesOf r) 92 + 1) = _
    rw [e, ih]
    have eb : bs0 (c :: r) = if c = 92 then 0 else bs0 r + 1 := rfl
    unfold ib
    rw [eb]
    generalize bs0 r = b at hle ⊢
    by_cases hq : c = 92
    · simp [hq]
    · simp only [hq, decide_false, Bool.false_eq_true, if_false, List.length_cons]
      by_cases h2 : b = r.length
      · simp [h2]
      · rw [if_neg h2, if_neg (show ¬ b + 1 = r.length + 1 by omega), if_neg (by simp)]
        simp
theorem idx_c {A : Option Addr} {c : Nat} {l : List Int} (w : World) (hr : ReadsInt w .u8 A l.length l) (hA : A = none → c = 0) (hb : ∀ x ∈ l, 0 ≤ x ∧ x ≤ 255) :
    Calls Tryd.prog 58 #[.slice A l.length c, .int .u8 92] w fun e w' => e = .returned (.int .i64 (ib l)) ∧ w' = w := by
  rcases A with _ | ad
  · have h0 : l.length = 0 := Nat.eq_zero_of_not_pos fun h => by
      obtain ⟨ad, e, _⟩ := hr.2.2 h
      cases e
    obtain rfl : l = [] := List.eq_nil_of_length_eq_zero h0
    rw [hA rfl]
    exact Tryd.bytes_IndexByte_nil 92 w
  · have := Tryd.bytes_IndexByte_at ad l.length c l 92 w rfl (by
      intro i hi
      obtain ⟨a, e, hc⟩ := hr.2.2 (by omega)
      injection e with e
      subst e
      exact hc i hi)
    rwa [show (92 : Int).toNat.toUInt8 = 92 from rfl, ib_eq l hb] at this
set_option maxRecDepth 100000 in
/-- in[m:] -/
theorem cut_in (ad : Addr) (n c m : Nat) (hm : m ≤ n) (hc : n ≤ c) : ∃ ad' : Addr, (∀ W : World, (Instr.slice 57 (.slice (some ad) n c) (some (.int .i64 (m : Int))) none none).run Tryd.prog W = .ok (.slice (some ad') (n - m) (c - m)) W) ∧
    (∀ (w : World) (xs : List Int), ReadsInt w .u8 (some ad) n xs → ReadsInt w .u8 (some ad') (n - m) (xs.drop m)) ∧ ad'.block = ad.block := by
  obtain ⟨i5, hi5, hz5, hsz5, hby5⟩ : ∃ i, Tryd.prog.info? 5 = some i ∧ i.zero = some (.int .u8 0) ∧ i.size = 1 ∧ i.bytes = 1 := ⟨_, rfl, rfl, rfl, rfl⟩
  by_cases e : c = m
  · refine ⟨ad, fun W => ?_, fun w xs h => ?_, rfl⟩
    · have hel : Tryd.prog.elem 57 = 5 := by simp [Program.elem, Tryd.underlying57]
      have hu : Tryd.prog.underlying 57 = some (.slice (Tryd.prog.elem 57)) := by rw [hel]; exact Tryd.underlying57
      rw [run_slice_l W 57 _ n c hu .i64 (m : Int) (Int.natCast_nonneg _) (by omega), hel]
      simp [sizeOf, typeInfo, hi5, hsz5, sliced, Result.andThen, e]
    · have h1 : xs.length = n := h.1
      exact ⟨by rw [List.length_drop]; omega, by have := h.2.1; omega, fun h2 => by omega⟩
  · refine ⟨ad.add m, fun W => ?_, fun w xs h => ?_, by unfold Addr.add; split <;> rfl⟩
    · have hel : Tryd.prog.elem 57 = 5 := by simp [Program.elem, Tryd.underlying57]
      have hu : Tryd.prog.underlying 57 = some (.slice (Tryd.prog.elem 57)) := by rw [hel]; exact Tryd.underlying57
      rw [run_slice_l W 57 _ n c hu .i64 (m : Int) (Int.natCast_nonneg _) (by omega), hel]
      simp [sizeOf, typeInfo, hi5, hsz5, sliced, Result.andThen, e]
    · have := h.drop_ m hm hc
      simpa [e] using this
set_option maxRecDepth 100000 in
theorem take_in (A : Option Addr) (n c m : Nat) (hm : m ≤ n) (hc : n ≤ c) (W : World) : (Instr.slice 57 (.slice A n c) none (some (.int .i64 (m : Int))) none).run Tryd.prog W = .ok (.slice A m c) W := by
  obtain ⟨i5, hi5, hz5, hsz5, hby5⟩ : ∃ i, Tryd.prog.info? 5 = some i ∧ i.zero = some (.int .u8 0) ∧ i.size = 1 ∧ i.bytes = 1 := ⟨_, rfl, rfl, rfl, rfl⟩
  have hel : Tryd.prog.elem 57 = 5 := by simp [Program.elem, Tryd.underlying57]
  have hu : Tryd.prog.underlying 57 = some (.slice (Tryd.prog.elem 57)) := by rw [hel]; exact Tryd.underlying57
  have ha : (A.map fun x => x.add 0) = A := by cases A <;> simp [Addr.add]
  rw [run_slice_h W 57 A n c hu .i64 m (by omega) (by omega), hel]
  simp [sizeOf, typeInfo, hi5, hsz5, sliced, Result.andThen, ha]
theorem take_reads {w : World} {A : Option Addr} {n : Nat} {xs : List Int} (h : ReadsInt w .u8 A n xs) (m : Nat) (hm : m ≤ n) : ReadsInt w .u8 A m (xs.take m) := h.take_ m hm
set_option maxRecDepth 100000 in
theorem cut_out (g o n c m : Nat) (hm : m ≤ n) (hc : n ≤ c) (hlt : m < c) (W : World) : (Instr.slice 57 (.slice (some ⟨g, o, none⟩) n c) (some (.int .i64 (m : Int))) none none).run Tryd.prog W = .ok (.slice (some ⟨g, o + m, none⟩) (n - m) (c - m)) W := by
  obtain ⟨i5, hi5, hz5, hsz5, hby5⟩ : ∃ i, Tryd.prog.info? 5 = some i ∧ i.zero = some (.int .u8 0) ∧ i.size = 1 ∧ i.bytes = 1 := ⟨_, rfl, rfl, rfl, rfl⟩
  exact cut_buf 57 5 .i64 Tryd.underlying57 hi5 hsz5 g o n c m hm hc hlt W
def UnPost (w : World) (g : Nat) (l : List Int) (e : Ending) (w' : World) : Prop :=
  match un l with
  | none => (∃ tp p, e = .returned (.tuple #[.slice none 0 0, .iface tp p])) ∧ Gr g w w'
  | some r => ∃ A' c', e = .returned (.tuple #[.slice A' r.length c', .nilIface]) ∧ ReadsInt w' .u8 A' r.length r ∧ r.length ≤ c' ∧ Gr g w w'
/-- The sentinel of a broken escape. -/
def Err3 (w : World) : Prop := ∃ tp p, w.cell? ⟨3, 0, none⟩ = some (.iface tp p)
theorem Err3.gr {g : Nat} {w w1 : World} (h : Err3 w) (hg : Gr g w w1) (hn : g ≠ 3) : Err3 w1 := by
  obtain ⟨tp, p, h⟩ := h
  exact ⟨tp, p, by rw [hg.cell (World.block_lt_of_cell? w _ h) (Ne.symm hn)]; exact h⟩
theorem Err3.alloc {w : World} (h : Err3 w) (o : Obj) : Err3 (w.alloc o) := by
  obtain ⟨tp, p, h⟩ := h
  exact ⟨tp, p, cell_alloc h o⟩
set_option maxHeartbeats 8000000 in
set_option maxRecDepth 100000 in
theorem unc_plain (A : Option Addr) (c : Nat) (l : List Int) (w : World) (hr : ReadsInt w .u8 A l.length l) (hlc : l.length ≤ c) (hA : A = none → c = 0) (hb : ∀ x ∈ l, 0 ≤ x ∧ x ≤ 255) (hp : bs0 l = l.length) (v : Value) (g : Nat) :
    Calls Tryd.prog 44 #[cfg, .slice A l.length c, v] w fun e w' => UnPost w g l e w' := by
  have H1 := fun w' hr' => idx_c (A := A) (c := c) (l := l) w' hr' hA hb
  rw [show ib l = -1 by unfold ib; rw [if_pos hp]] at H1
  have HH := Lib.hid H1
  have hu : un l = some l := un_all l (by have := bs0_take l; rwa [hp, List.take_length] at this)
  have HU := Lib.hid hu
  have HR := Lib.hid (hr.below ((Below.refl w.heap.size w).alloc (Nat.le_refl _) (.cells #[.bool false, .bool false, .int .i64 0] 80)))
  clear H1 hr hA hb hp hu
  unfold cfg
  go_enter Tryd.func44, Tryd.ntmps44
  go_wp2_with (go_at_call 58; refine (HH.out _ HR.out).mono ?_; rintro e w1 ⟨rfl, rfl⟩)
  go_ret2
  unfold UnPost
  rw [HU.out]
  exact ⟨A, c, rfl, HR.out, hlc, Gr.alloc g w _⟩
/-- What is held at the loop's head: the buffer's block g, what has been written, what is still to be read. -/
def Head (W0 : World) (B g : Nat) (l : List Int) (capo : Nat) (vi vb : Value) (w : World) : Prop :=
  ∃ (ad : Addr) (c : Nat) (l' E : List Int), vi = .slice (some ad) l'.length c ∧ l'.length ≤ c ∧ ReadsInt w .u8 (some ad) l'.length l' ∧ ad.block ≠ g ∧ l'.getD 0 0 = 92 ∧ 0 < l'.length ∧ (∀ x ∈ l', 0 ≤ x ∧ x ≤ 255) ∧
    vb = .slice (some ⟨g, E.length, none⟩) (l.length - E.length) (capo - E.length) ∧ E.length + l'.length ≤ l.length ∧ BO w g capo E ∧ un l = (un l').map (E ++ ·) ∧
    Gr g W0 w ∧ Tab w ∧ Err3 w ∧ w.cell? ⟨B, 0, none⟩ = some (.bool false) ∧ w.cell? ⟨B, 1, none⟩ = some (.bool false) ∧ w.cell? ⟨B, 2, none⟩ = some (.int .i64 0)
def Post (W0 w : World) (g0 g : Nat) : Prop := ∀ w', Gr g W0 w' → Gr g0 w w'
theorem new_fin {w w1 : World} (o : Obj) (g : Nat) (h : Gr (w.heap.size + 1) (w.alloc o) w1) : Gr g w w1 :=
  .of_below g (((Below.refl _ _).alloc (Nat.le_refl _) o).trans (h.below (by simp) (by omega)))
theorem bo_of_own {w : World} {base g n cap : Nat} {e : TypeId} {xs : List Value} (h : w.ownsRow base e 1 (.slice (some ⟨g, 0, none⟩) n cap) n xs) : BO w g cap [] := by
  obtain ⟨hl, h | ⟨g', cap', cur, hv, hg, hb, hnc, hm, hsz, ht⟩⟩ := h
  · simp at h
  · simp only [Value.slice.injEq, Option.some.injEq, Addr.mk.injEq, and_true, true_and] at hv
    obtain ⟨rfl, rfl⟩ := hv
    exact ⟨cur, e, hb, by omega, Nat.zero_le _, fun j hj => by simp at hj⟩
theorem Gr.of_grown {w w1 : World} (g : Nat) (h : w.grownBy w1 none) : Gr g w w1 := Gr.of_below g ⟨h.os, h.tape, h.output, h.size, fun i hi => h.block i hi (by simp)⟩
set_option maxHeartbeats 8000000 in
set_option maxRecDepth 100000 in
theorem unc_reuse (A : Option Addr) (c : Nat) (l : List Int) (w : World) (hr : ReadsInt w .u8 A l.length l) (hlc : l.length ≤ c) (hb : ∀ x ∈ l, 0 ≤ x ∧ x ≤ 255) (hp : bs0 l ≠ l.length)
    (g n capo : Nat) (hcap : l.length ≤ capo) (hB : BO w g capo []) (hg3 : g ≠ 3) (hg4 : g ≠ 4) (hA : ∀ a, A = some a → a.block ≠ g) (hT : Tab w) (hE : Err3 w) :
    Calls Tryd.prog 44 #[cfg, .slice A l.length c, .slice (some ⟨g, 0, none⟩) n capo] w fun e w' => UnPost w g l e w' := by
  have hle := bs0_le l
  have hll : l.length ≤ 9223372036854775807 := hr.2.1
  have hlt : bs0 l < l.length := by omega
  obtain ⟨ad, rfl, _⟩ := hr.2.2 (by omega)
  have hag := hA ad rfl
  have H1 := fun w' hr' => idx_c (A := some ad) (c := c) (l := l) w' hr' (fun h => by cases h) hb
  rw [show ib l = (bs0 l : Int) by unfold ib; rw [if_neg hp]] at H1
  have HH := Lib.hid H1
  obtain ⟨ad1, hc1, hr1, hb1⟩ := cut_in ad l.length c (bs0 l) hle hlc
  obtain ⟨r, hdr⟩ := bs0_drop l hlt
  have ht := take_in (some ad) l.length c (bs0 l) hle hlc
  have HR := Lib.hid (hr.below ((Below.refl w.heap.size w).alloc (Nat.le_refl _) (.cells #[.bool false, .bool false, .int .i64 0] 80)))
  have HB := Lib.hid (hB.alloc (.cells #[.bool false, .bool false, .int .i64 0] 80))
  have HX := Lib.hid (And.intro hr1 (And.intro hb1 (And.intro hdr (And.intro hb (And.intro hp (And.intro hA (And.intro hT (And.intro hE (And.intro hag (And.intro hB.lt (And.intro hg3 hg4)))))))))))
  obtain ⟨k, hk⟩ : ∃ k, bs0 l = k := ⟨_, rfl⟩
  rw [hk] at hle hlt HH hc1 ht
  have HK := Lib.hid hk
  have hkc : k < capo := by omega
  have hco := cut_out g 0 l.length capo k hle hcap hkc
  clear H1 hr hA hb hp hr1 hb1 hdr hB hT hE hag hg3 hg4 hk
  unfold cfg
  go_enter Tryd.func44, Tryd.ntmps44
  have HTR := Lib.hid (take_reads HR.out k hle)
  have HLT : (l.take k).length = k := by rw [List.length_take]; omega
  have HL := Lib.hid HLT
  clear HLT
  go_wp2_with (first | (go_at_call 58; refine (HH.out _ HR.out).mono ?_; rintro e w1 ⟨rfl, rfl⟩) | (with_reducible refine wpList_copy_bo rfl (.tmp 30) (.tmp 33) 57 57 rfl 5 Tryd.underlying57 (by kernel_rfl) _ _ _ _ _ _ rfl rfl hle g capo [] (l.take k) HB.out HTR.out (fun _ => rfl) ?hf ?_; (case hf => simp only [List.length_nil]; omega); intro w2 hb2 hg2; have HB2 := Lib.hid hb2; have HG2 := Lib.hid hg2; clear hb2 hg2))
  have W0le : w.heap.size < (w.alloc (.cells #[.bool false, .bool false, .int .i64 0] 80)).heap.size := by simp
  go_loopw [1, 9] (fun vi vb wr => Head (w.alloc (.cells #[.bool false, .bool false, .int .i64 0] 80)) w.heap.size g l capo vi vb wr) (fun vi _ _ => match vi with | .slice _ n _ => n | _ => 0)
  case atStart => 
    obtain ⟨hr1, hb1, hdr, hb, hp, hA, hT, hE, hag, hgs, hg3, hg4⟩ := HX.out
    have hk := HK.out
    have hl := HL.out
    have hd : (l.drop k).length = l.length - k := List.length_drop
    rw [hk] at hdr hr1
    have hne : ad1.block ≠ g := by rw [hb1]; exact hag
    have hr2 := reads_gr (hr1 _ _ HR.out) HG2.out (fun a e _ => by injection e with e; subst e; exact hne)
    refine ⟨ad1, c - k, l.drop k, l.take k, by rw [hd], by omega, by rw [hd]; exact hr2, hne, by rw [hdr]; rfl, by omega, fun x hx => hb x (List.mem_of_mem_drop hx), by rw [hl], by omega, HB2.out, by rw [← hk]; exact un_step l, HG2.out, (hT.alloc _).gr HG2.out (by omega), (hE.alloc _).gr HG2.out (by omega), ?_, ?_, ?_⟩
    all_goals
      rw [HG2.out.cell (by simp) (by omega)]
      simp
  case round =>
    obtain ⟨ad', c', l', E, rfl, hlc', hr', hbn, h92, hpos, hby, rfl, hlen, hBO, hun, hGr, hTab, hErr, c0, c1, c2⟩ := hrel
    obtain ⟨r', hr92⟩ : ∃ r', l' = 92 :: r' := by
      cases l' with
      | nil => simp at hpos
      | cons x r' => exact ⟨r', by simp at h92; rw [h92]⟩
    cases hu : u1 l' with
    | none =>
      have hunn : un l = none := by rw [hun, hr92, un_none (by rw [← hr92]; exact hu)]; rfl
      have HS := Lib.hid (fun (v : Value) => uto_none (c := c') hr' hlc' v g h92 hu)
      have HY := Lib.hid (And.intro hunn (And.intro hGr (And.intro hTab hErr)))
      clear hr' hbn h92 hby hlen hBO hun hGr hTab hErr hu hr92 hunn
      go_wp2_with (go_at_call 59; refine (HS.out _).mono ?_; rintro e w3 ⟨rfl, hg3⟩)
      obtain ⟨tp, p, he⟩ := HY.out.2.2.2.gr hg3 HX.out.2.2.2.2.2.2.2.2.2.2.1
      go_quiet (fail)
      go_wp2
      go_ret2
      unfold UnPost
      rw [HY.out.1]
      exact ⟨⟨tp, p, rfl⟩, (Gr.alloc g w _).trans ((HY.out.2.1.trans hg3).trans (Gr.drewN _ _ _))⟩
    | some mb =>
      obtain ⟨m, bs⟩ := mb
      have hm := u1_le hu
      have hune : un l = (un (l'.drop m)).map ((E ++ bs) ++ ·) := by
        rw [hun, hr92, un_some (by rw [← hr92]; exact hu), ← hr92]
        cases un (l'.drop m) <;> simp
      have HS := Lib.hid (uto_some (c := c') (g := g) (n := capo) (dLen := l.length - E.length) (dCap := capo - E.length) hr' hlc' hBO hTab h92 hu (by omega) (by omega))
      obtain ⟨ad2, hc2, hr2, hb2⟩ := cut_in ad' l'.length c' m hm.2.1 hlc'
      have hl2 : (l'.drop m).length = l'.length - m := List.length_drop
      have hco := cut_out g E.length (l.length - E.length) (capo - E.length) bs.length (by omega) (by omega) (by omega)
      have hby2 : ∀ x ∈ l'.drop m, 0 ≤ x ∧ x ≤ 255 := fun x hx => hby x (List.mem_of_mem_drop hx)
      have H2 := fun w' hr'' => idx_c (A := some ad2) (c := c' - m) (l := l'.drop m) w' hr'' (fun h => by cases h) hby2
      rw [hl2] at H2
      obtain ⟨l2, hl2e⟩ : ∃ l2, l'.drop m = l2 := ⟨_, rfl⟩
      rw [hl2e] at hune hl2 H2
      have hr3 := fun w xs h => by have := hr2 w xs h; exact this
      by_cases hq : bs0 l2 = l2.length
      · have hun2 : un l = some (E ++ bs ++ l2) := by
          rw [hune, un_all l2 (by have := bs0_take l2; rwa [hq, List.take_length] at this)]
          rfl
        rw [show ib l2 = -1 by unfold ib; rw [if_pos hq]] at H2
        have HH2 := Lib.hid H2
        have hco2 := cut_out g (E.length + bs.length) (l.length - E.length - bs.length) (capo - E.length - bs.length) (l'.length - m) (by omega) (by omega) (by omega)
        have hRl : (E ++ bs ++ l2).length = E.length + bs.length + (l'.length - m) := by simp only [List.length_append]; omega
        obtain ⟨N, hN⟩ : ∃ N, (E ++ bs ++ l2).length = N := ⟨_, rfl⟩
        rw [hN] at hRl
        have hfin := take_in (some ⟨g, 0, none⟩) l.length capo N (by omega) hcap
        rw [show ((N : Nat) : Int) = (l.length : Int) - ((l.length - E.length - bs.length - (l'.length - m) : Nat) : Int) by omega] at hfin
        have HRL := Lib.hid (And.intro hN hRl)
        clear hRl hN
        have HY := Lib.hid (And.intro hun2 (And.intro hGr (And.intro hr2 (And.intro hb2 (And.intro hbn (And.intro hr' (And.intro hl2e hl2)))))))
        have hM := hm.2.2
        have hle1 : m ≤ l'.length := hm.2.1
        have hin : l'.length - m ≤ l.length - E.length - bs.length := by omega
        clear hr' hbn h92 hby hby2 hBO hun hGr hTab hErr hu hr92 hune hr2 hr3 hb2 hl2e hl2 hq hun2 H2 hm
        go_wp2_with (first | (go_at_call 59; refine (HS.out).mono ?_; rintro e w3 ⟨rfl, hb3, hg3⟩; have HB3 := Lib.hid hb3; have HR3 := Lib.hid (reads_gr (HY.out.2.2.1 _ _ HY.out.2.2.2.2.2.1) hg3 (fun a e _ => by injection e with e; subst e; rw [HY.out.2.2.2.1]; exact HY.out.2.2.2.2.1)); have HG3 := Lib.hid hg3; clear hb3 hg3) | (go_at_call 58; refine (HH2.out _ (by have := HR3.out; rwa [HY.out.2.2.2.2.2.2.1] at this)).mono ?_; rintro e w4 ⟨rfl, rfl⟩) | (with_reducible refine wpList_copy_bo rfl (.tmp 61) (.tmp 62) 57 57 rfl 5 Tryd.underlying57 (by kernel_rfl) _ _ _ _ _ _ rfl rfl hin g capo (E ++ bs) l2 HB3.out ?hr ?hdp ?hf ?_; (case hr => have := HR3.out; rwa [HY.out.2.2.2.2.2.2.1] at this); (case hdp => intro _; rw [List.length_append]); (case hf => rw [List.length_append]; omega); intro w5 hb5 hg5; have HB5 := Lib.hid hb5; have HG5 := Lib.hid hg5; clear hb5 hg5))
        go_ret2
        unfold UnPost
        rw [HY.out.1]
        have hN := HRL.out.1
        have hRl := HRL.out.2
        simp only
        rw [hN]
        refine ⟨some ⟨g, 0, none⟩, capo, rfl, ⟨hN, by omega, fun _ => ⟨_, rfl, fun j hj => ?_⟩⟩, by omega, (Gr.alloc g w _).trans (HY.out.2.1.trans (HG3.out.trans HG5.out))⟩
        have := HB5.out.bb.cell j (by omega)
        unfold Addr.add
        split
        · rename_i e
          subst e
          exact this
        · simpa using this
      · have hk2 : bs0 l2 < l2.length := by have := bs0_le l2; omega
        obtain ⟨r2, hd2⟩ := bs0_drop l2 hk2
        have hune2 : un l = (un (l2.drop (bs0 l2))).map ((E ++ bs ++ l2.take (bs0 l2)) ++ ·) := by
          rw [hune, un_step l2]
          cases un (l2.drop (bs0 l2)) <;> simp
        rw [show ib l2 = (bs0 l2 : Int) by unfold ib; rw [if_neg hq]] at H2
        obtain ⟨k2, hk2e⟩ : ∃ k2, bs0 l2 = k2 := ⟨_, rfl⟩
        rw [hk2e] at hk2 hd2 hune2 H2
        have HH2 := Lib.hid H2
        have hk2n : k2 < l'.length - m := by omega
        have ht2 := take_in (some ad2) (l'.length - m) (c' - m) k2 (by omega) (by omega)
        obtain ⟨ad3, hc3, hr3', hb3'⟩ := cut_in ad2 (l'.length - m) (c' - m) k2 (by omega) (by omega)
        have hco2 := cut_out g (E.length + bs.length) (l.length - E.length - bs.length) (capo - E.length - bs.length) k2 (by omega) (by omega) (by omega)
        have htl : (l2.take k2).length = k2 := by rw [List.length_take]; omega
        have hby3 : ∀ x ∈ l2.drop k2, 0 ≤ x ∧ x ≤ 255 := fun x hx => hby2 x (by rw [hl2e]; exact List.mem_of_mem_drop hx)
        have hin : k2 ≤ l.length - E.length - bs.length := by omega
        have HY := Lib.hid (And.intro hune2 (And.intro hGr (And.intro hr2 (And.intro hb2 (And.intro hbn (And.intro hr' (And.intro hl2e (And.intro hl2 (And.intro hTab (And.intro hErr (And.intro hr3' (And.intro hb3' (And.intro htl (And.intro hby3 hd2))))))))))))))
        have hM := hm.2.2
        have hM0 := hm.1
        have hle1 : m ≤ l'.length := hm.2.1
        clear hr' hbn h92 hby hby2 hby3 hBO hun hGr hTab hErr hu hr92 hune hune2 hr2 hr3 hr3' hb2 hb3' hl2e hl2 hq H2 hm hk2 hd2 hk2e htl
        go_wp2_with (first | (go_at_call 59; refine (HS.out).mono ?_; rintro e w3 ⟨rfl, hb3, hg3⟩; have HB3 := Lib.hid hb3; have HR3 := Lib.hid (reads_gr (HY.out.2.2.1 _ _ HY.out.2.2.2.2.2.1) hg3 (fun a e _ => by injection e with e; subst e; rw [HY.out.2.2.2.1]; exact HY.out.2.2.2.2.1)); have HG3 := Lib.hid hg3; clear hb3 hg3) | (go_at_call 58; refine (HH2.out _ (by have := HR3.out; rwa [HY.out.2.2.2.2.2.2.1] at this)).mono ?_; rintro e w4 ⟨rfl, rfl⟩) | (with_reducible refine wpList_copy_bo rfl (.tmp 68) (.tmp 71) 57 57 rfl 5 Tryd.underlying57 (by kernel_rfl) _ _ _ _ _ _ rfl rfl hin g capo (E ++ bs) (l2.take k2) HB3.out ?hr ?hdp ?hf ?_; (case hr => have := HR3.out; rw [HY.out.2.2.2.2.2.2.1] at this; exact take_reads this k2 (Nat.le_of_lt hk2n)); (case hdp => intro _; rw [List.length_append]); (case hf => rw [List.length_append]; omega); intro w5 hb5 hg5; have HB5 := Lib.hid hb5; have HG5 := Lib.hid hg5; clear hb5 hg5))
        go_roundw
        case rel =>
          obtain ⟨hune2, hGr, hr2, hb2, hbn, hr', hl2e, hl2, hTab, hErr, hr3', hb3', htl, hby3, hd2⟩ := HY.out
          have hgr := HG3.out.trans HG5.out
          have hdl : (l2.drop k2).length = l'.length - m - k2 := by rw [List.length_drop]; omega
          have hEl : (E ++ bs ++ l2.take k2).length = E.length + bs.length + k2 := by simp only [List.length_append]; omega
          have hR5 := reads_gr (hr3' _ _ (by have := HR3.out; rwa [hl2e] at this)) HG5.out (fun a e _ => by injection e with e; subst e; rw [hb3', hb2]; exact hbn)
          refine ⟨ad3, c' - m - k2, l2.drop k2, E ++ bs ++ l2.take k2, by rw [hdl], by omega, by rw [hdl]; exact hR5, by rw [hb3', hb2]; exact hbn, by rw [hd2]; rfl, by omega, hby3, by simp only [hEl, Nat.sub_add_eq], by omega, HB5.out, hune2, hGr.trans hgr, hTab.gr hgr HX.out.2.2.2.2.2.2.2.2.2.2.2, hErr.gr hgr HX.out.2.2.2.2.2.2.2.2.2.2.1, ?_, ?_, ?_⟩
          · rw [hgr.cell (World.block_lt_of_cell? wr _ c0) (Nat.ne_of_gt HX.out.2.2.2.2.2.2.2.2.2.1)]; exact c0
          · rw [hgr.cell (World.block_lt_of_cell? wr _ c0) (Nat.ne_of_gt HX.out.2.2.2.2.2.2.2.2.2.1)]; exact c1
          · rw [hgr.cell (World.block_lt_of_cell? wr _ c0) (Nat.ne_of_gt HX.out.2.2.2.2.2.2.2.2.2.1)]; exact c2
        case measure => simp only; omega
set_option maxHeartbeats 8000000 in
set_option maxRecDepth 100000 in
theorem unc_make (A : Option Addr) (c : Nat) (l : List Int) (w : World) (hr : ReadsInt w .u8 A l.length l) (hlc : l.length ≤ c) (hb : ∀ x ∈ l, 0 ≤ x ∧ x ≤ 255) (hp : bs0 l ≠ l.length)
    (g : Nat) (po : Option Addr) (n capo : Nat) (hcap : capo < l.length) (hlim : l.length ≤ 140737488351232) (hT : Tab w) (hE : Err3 w) :
    Calls Tryd.prog 44 #[cfg, .slice A l.length c, .slice po n capo] w fun e w' => UnPost w g l e w' := by
  have hle := bs0_le l
  have hll : l.length ≤ 9223372036854775807 := hr.2.1
  have hlt : bs0 l < l.length := by omega
  obtain ⟨i5, hi5, hz5, hsz5, hby5⟩ : ∃ i, Tryd.prog.info? 5 = some i ∧ i.zero = some (.int .u8 0) ∧ i.size = 1 ∧ i.bytes = 1 := ⟨_, rfl, rfl, rfl, rfl⟩
  obtain ⟨ad, rfl, hca⟩ := hr.2.2 (by omega)
  have hag : ad.block < w.heap.size := by
    have := World.block_lt_of_cell? w _ (hca 0 (by omega))
    rwa [add0] at this
  have hg3 : 3 < w.heap.size := by obtain ⟨_, _, h⟩ := hE; exact World.block_lt_of_cell? w _ h
  have hg4 : 4 < w.heap.size := World.block_lt_of_cell? w _ (hT 34 (.inl rfl))
  have H1 := fun w' hr' => idx_c (A := some ad) (c := c) (l := l) w' hr' (fun h => by cases h) hb
  rw [show ib l = (bs0 l : Int) by unfold ib; rw [if_neg hp]] at H1
  have HH := Lib.hid H1
  obtain ⟨ad1, hc1, hr1, hb1⟩ := cut_in ad l.length c (bs0 l) hle hlc
  obtain ⟨r, hdr⟩ := bs0_drop l hlt
  have ht := take_in (some ad) l.length c (bs0 l) hle hlc
  have HR := Lib.hid (hr.below ((Below.refl w.heap.size w).alloc (Nat.le_refl _) (.cells #[.bool false, .bool false, .int .i64 0] 80)))
  have HX := Lib.hid (And.intro hr1 (And.intro hb1 (And.intro hdr (And.intro hb (And.intro hp (And.intro hT (And.intro hE (And.intro hag (And.intro hg3 hg4)))))))))
  obtain ⟨k, hk⟩ : ∃ k, bs0 l = k := ⟨_, rfl⟩
  rw [hk] at hle hlt HH hc1 ht
  have HK := Lib.hid hk
  have hcap2 : l.length ≤ l.length := Nat.le_refl _
  have hco := cut_out (w.heap.size + 1) 0 l.length l.length k hle (Nat.le_refl _) hlt
  clear H1 hr hca hb hp hr1 hb1 hdr hT hE hag hg3 hg4 hk
  unfold cfg
  go_enter Tryd.func44, Tryd.ntmps44
  have HTR := Lib.hid (take_reads HR.out k hle)
  have HLT : (l.take k).length = k := by rw [List.length_take]; omega
  have HL := Lib.hid HLT
  clear HLT
  go_wp2_with (first | (go_at_call 58; refine (HH.out _ HR.out).mono ?_; rintro e w1 ⟨rfl, rfl⟩) | (with_reducible refine wpList_make_full _ rfl _ _ 57 rfl 0 5 i5 (.int .u8 0) 1 Tryd.underlying57 hi5 hz5 hsz5 .i64 .i64 l.length l.length l.length rfl rfl rfl rfl ?hb2 ?hb3 (Nat.zero_le _) ?_; (case hb2 => rw [hby5]; omega); (case hb3 => unfold maxLen; omega); intro w1 hown hgrow; have HB : Hid (BO w1 (w.heap.size + 1) l.length []) := Lib.hid (by have := bo_of_own hown; simpa using this); have HG1 := Lib.hid (Gr.of_grown (w.heap.size + 1) hgrow); have HTR1 := Lib.hid (reads_gr HTR.out HG1.out (fun a e _ => by injection e with e; subst e; have := HX.out.2.2.2.2.2.2.2.1; omega)); clear hown hgrow) | (with_reducible refine wpList_copy_bo rfl (.tmp 30) (.tmp 33) 57 57 rfl 5 Tryd.underlying57 (by kernel_rfl) _ _ _ _ _ _ rfl rfl hle (w.heap.size + 1) l.length [] (l.take k) HB.out HTR1.out (fun _ => rfl) ?hf ?_; (case hf => simp only [List.length_nil]; omega); intro w2 hb2 hg2; have HB2 := Lib.hid hb2; have HG2 := Lib.hid (HG1.out.trans hg2); clear hb2 hg2))
  have W0le : w.heap.size < (w.alloc (.cells #[.bool false, .bool false, .int .i64 0] 80)).heap.size := by simp
  go_loopw [1, 9] (fun vi vb wr => Head (w.alloc (.cells #[.bool false, .bool false, .int .i64 0] 80)) w.heap.size (w.heap.size + 1) l l.length vi vb wr) (fun vi _ _ => match vi with | .slice _ n _ => n | _ => 0)
  case atStart => 
    obtain ⟨hr1, hb1, hdr, hb, hp, hT, hE, hag, hg3, hg4⟩ := HX.out
    have hk := HK.out
    have hl := HL.out
    have hd : (l.drop k).length = l.length - k := List.length_drop
    rw [hk] at hdr hr1
    have hne : ad1.block ≠ (w.heap.size + 1) := by rw [hb1]; omega
    have hr2 := reads_gr (hr1 _ _ HR.out) HG2.out (fun a e _ => by injection e with e; subst e; exact hne)
    refine ⟨ad1, c - k, l.drop k, l.take k, by rw [hd], by omega, by rw [hd]; exact hr2, hne, by rw [hdr]; rfl, by omega, fun x hx => hb x (List.mem_of_mem_drop hx), by rw [hl], by omega, HB2.out, by rw [← hk]; exact un_step l, HG2.out, (hT.alloc _).gr HG2.out (by omega), (hE.alloc _).gr HG2.out (by omega), ?_, ?_, ?_⟩
    all_goals
      rw [HG2.out.cell (by simp) (by omega)]
      simp
  case round =>
    obtain ⟨ad', c', l', E, rfl, hlc', hr', hbn, h92, hpos, hby, rfl, hlen, hBO, hun, hGr, hTab, hErr, c0, c1, c2⟩ := hrel
    obtain ⟨r', hr92⟩ : ∃ r', l' = 92 :: r' := by
      cases l' with
      | nil => simp at hpos
      | cons x r' => exact ⟨r', by simp at h92; rw [h92]⟩
    cases hu : u1 l' with
    | none =>
      have hunn : un l = none := by rw [hun, hr92, un_none (by rw [← hr92]; exact hu)]; rfl
      have HS := Lib.hid (fun (v : Value) => uto_none (c := c') hr' hlc' v (w.heap.size + 1) h92 hu)
      have HY := Lib.hid (And.intro hunn (And.intro hGr (And.intro hTab hErr)))
      clear hr' hbn h92 hby hlen hBO hun hGr hTab hErr hu hr92 hunn
      go_wp2_with (go_at_call 59; refine (HS.out _).mono ?_; rintro e w3 ⟨rfl, hg3⟩)
      obtain ⟨tp, p, he⟩ := HY.out.2.2.2.gr hg3 (by have := HX.out.2.2.2.2.2.2.2.2.1; omega)
      go_quiet (fail)
      go_wp2
      go_ret2
      unfold UnPost
      rw [HY.out.1]
      exact ⟨⟨tp, p, rfl⟩, new_fin (w := w) _ g ((HY.out.2.1.trans hg3).trans (Gr.drewN _ _ _))⟩
    | some mb =>
      obtain ⟨m, bs⟩ := mb
      have hm := u1_le hu
      have hune : un l = (un (l'.drop m)).map ((E ++ bs) ++ ·) := by
        rw [hun, hr92, un_some (by rw [← hr92]; exact hu), ← hr92]
        cases un (l'.drop m) <;> simp
      have HS := Lib.hid (uto_some (c := c') (g := (w.heap.size + 1)) (n := l.length) (dLen := l.length - E.length) (dCap := l.length - E.length) hr' hlc' hBO hTab h92 hu (by omega) (by omega))
      obtain ⟨ad2, hc2, hr2, hb2⟩ := cut_in ad' l'.length c' m hm.2.1 hlc'
      have hl2 : (l'.drop m).length = l'.length - m := List.length_drop
      have hco := cut_out (w.heap.size + 1) E.length (l.length - E.length) (l.length - E.length) bs.length (by omega) (by omega) (by omega)
      have hby2 : ∀ x ∈ l'.drop m, 0 ≤ x ∧ x ≤ 255 := fun x hx => hby x (List.mem_of_mem_drop hx)
      have H2 := fun w' hr'' => idx_c (A := some ad2) (c := c' - m) (l := l'.drop m) w' hr'' (fun h => by cases h) hby2
      rw [hl2] at H2
      obtain ⟨l2, hl2e⟩ : ∃ l2, l'.drop m = l2 := ⟨_, rfl⟩
      rw [hl2e] at hune hl2 H2
      have hr3 := fun w xs h => by have := hr2 w xs h; exact this
      by_cases hq : bs0 l2 = l2.length
      · have hun2 : un l = some (E ++ bs ++ l2) := by
          rw [hune, un_all l2 (by have := bs0_take l2; rwa [hq, List.take_length] at this)]
          rfl
        rw [show ib l2 = -1 by unfold ib; rw [if_pos hq]] at H2
        have HH2 := Lib.hid H2
        have hco2 := cut_out (w.heap.size + 1) (E.length + bs.length) (l.length - E.length - bs.length) (l.length - E.length - bs.length) (l'.length - m) (by omega) (by omega) (by omega)
        have hRl : (E ++ bs ++ l2).length = E.length + bs.length + (l'.length - m) := by simp only [List.length_append]; omega
        obtain ⟨N, hN⟩ : ∃ N, (E ++ bs ++ l2).length = N := ⟨_, rfl⟩
        rw [hN] at hRl
        have hfin := take_in (some ⟨(w.heap.size + 1), 0, none⟩) l.length l.length N (by omega) hcap2
        rw [show ((N : Nat) : Int) = (l.length : Int) - ((l.length - E.length - bs.length - (l'.length - m) : Nat) : Int) by omega] at hfin
        have HRL := Lib.hid (And.intro hN hRl)
        clear hRl hN
        have HY := Lib.hid (And.intro hun2 (And.intro hGr (And.intro hr2 (And.intro hb2 (And.intro hbn (And.intro hr' (And.intro hl2e hl2)))))))
        have hM := hm.2.2
        have hle1 : m ≤ l'.length := hm.2.1
        have hin : l'.length - m ≤ l.length - E.length - bs.length := by omega
        clear hr' hbn h92 hby hby2 hBO hun hGr hTab hErr hu hr92 hune hr2 hr3 hb2 hl2e hl2 hq hun2 H2 hm
        go_wp2_with (first | (go_at_call 59; refine (HS.out).mono ?_; rintro e w3 ⟨rfl, hb3, hg3⟩; have HB3 := Lib.hid hb3; have HR3 := Lib.hid (reads_gr (HY.out.2.2.1 _ _ HY.out.2.2.2.2.2.1) hg3 (fun a e _ => by injection e with e; subst e; rw [HY.out.2.2.2.1]; exact HY.out.2.2.2.2.1)); have HG3 := Lib.hid hg3; clear hb3 hg3) | (go_at_call 58; refine (HH2.out _ (by have := HR3.out; rwa [HY.out.2.2.2.2.2.2.1] at this)).mono ?_; rintro e w4 ⟨rfl, rfl⟩) | (with_reducible refine wpList_copy_bo rfl (.tmp 61) (.tmp 62) 57 57 rfl 5 Tryd.underlying57 (by kernel_rfl) _ _ _ _ _ _ rfl rfl hin (w.heap.size + 1) l.length (E ++ bs) l2 HB3.out ?hr ?hdp ?hf ?_; (case hr => have := HR3.out; rwa [HY.out.2.2.2.2.2.2.1] at this); (case hdp => intro _; rw [List.length_append]); (case hf => rw [List.length_append]; omega); intro w5 hb5 hg5; have HB5 := Lib.hid hb5; have HG5 := Lib.hid hg5; clear hb5 hg5))
        go_ret2
        unfold UnPost
        rw [HY.out.1]
        have hN := HRL.out.1
        have hRl := HRL.out.2
        simp only
        rw [hN]
        refine ⟨some ⟨(w.heap.size + 1), 0, none⟩, l.length, rfl, ⟨hN, by omega, fun _ => ⟨_, rfl, fun j hj => ?_⟩⟩, by omega, new_fin (w := w) _ g (HY.out.2.1.trans (HG3.out.trans HG5.out))⟩
        have := HB5.out.bb.cell j (by omega)
        unfold Addr.add
        split
        · rename_i e
          subst e
          exact this
        · simpa using this
      · have hk2 : bs0 l2 < l2.length := by have := bs0_le l2; omega
        obtain ⟨r2, hd2⟩ := bs0_drop l2 hk2
        have hune2 : un l = (un (l2.drop (bs0 l2))).map ((E ++ bs ++ l2.take (bs0 l2)) ++ ·) := by
          rw [hune, un_step l2]
          cases un (l2.drop (bs0 l2)) <;> simp
        rw [show ib l2 = (bs0 l2 : Int) by unfold ib; rw [if_neg hq]] at H2
        obtain ⟨k2, hk2e⟩ : ∃ k2, bs0 l2 = k2 := ⟨_, rfl⟩
        rw [hk2e] at hk2 hd2 hune2 H2
        have HH2 := Lib.hid H2
        have hk2n : k2 < l'.length - m := by omega
        have ht2 := take_in (some ad2) (l'.length - m) (c' - m) k2 (by omega) (by omega)
        obtain ⟨ad3, hc3, hr3', hb3'⟩ := cut_in ad2 (l'.length - m) (c' - m) k2 (by omega) (by omega)
        have hco2 := cut_out (w.heap.size + 1) (E.length + bs.length) (l.length - E.length - bs.length) (l.length - E.length - bs.length) k2 (by omega) (by omega) (by omega)
        have htl : (l2.take k2).length = k2 := by rw [List.length_take]; omega
        have hby3 : ∀ x ∈ l2.drop k2, 0 ≤ x ∧ x ≤ 255 := fun x hx => hby2 x (by rw [hl2e]; exact List.mem_of_mem_drop hx)
        have hin : k2 ≤ l.length - E.length - bs.length := by omega
        have HY := Lib.hid (And.intro hune2 (And.intro hGr (And.intro hr2 (And.intro hb2 (And.intro hbn (And.intro hr' (And.intro hl2e (And.intro hl2 (And.intro hTab (And.intro hErr (And.intro hr3' (And.intro hb3' (And.intro htl (And.intro hby3 hd2))))))))))))))
        have hM := hm.2.2
        have hM0 := hm.1
        have hle1 : m ≤ l'.length := hm.2.1
        clear hr' hbn h92 hby hby2 hby3 hBO hun hGr hTab hErr hu hr92 hune hune2 hr2 hr3 hr3' hb2 hb3' hl2e hl2 hq H2 hm hk2 hd2 hk2e htl
        go_wp2_with (first | (go_at_call 59; refine (HS.out).mono ?_; rintro e w3 ⟨rfl, hb3, hg3⟩; have HB3 := Lib.hid hb3; have HR3 := Lib.hid (reads_gr (HY.out.2.2.1 _ _ HY.out.2.2.2.2.2.1) hg3 (fun a e _ => by injection e with e; subst e; rw [HY.out.2.2.2.1]; exact HY.out.2.2.2.2.1)); have HG3 := Lib.hid hg3; clear hb3 hg3) | (go_at_call 58; refine (HH2.out _ (by have := HR3.out; rwa [HY.out.2.2.2.2.2.2.1] at this)).mono ?_; rintro e w4 ⟨rfl, rfl⟩) | (with_reducible refine wpList_copy_bo rfl (.tmp 68) (.tmp 71) 57 57 rfl 5 Tryd.underlying57 (by kernel_rfl) _ _ _ _ _ _ rfl rfl hin (w.heap.size + 1) l.length (E ++ bs) (l2.take k2) HB3.out ?hr ?hdp ?hf ?_; (case hr => have := HR3.out; rw [HY.out.2.2.2.2.2.2.1] at this; exact take_reads this k2 (Nat.le_of_lt hk2n)); (case hdp => intro _; rw [List.length_append]); (case hf => rw [List.length_append]; omega); intro w5 hb5 hg5; have HB5 := Lib.hid hb5; have HG5 := Lib.hid hg5; clear hb5 hg5))
        go_roundw
        case rel =>
          obtain ⟨hune2, hGr, hr2, hb2, hbn, hr', hl2e, hl2, hTab, hErr, hr3', hb3', htl, hby3, hd2⟩ := HY.out
          have hgr := HG3.out.trans HG5.out
          have hdl : (l2.drop k2).length = l'.length - m - k2 := by rw [List.length_drop]; omega
          have hEl : (E ++ bs ++ l2.take k2).length = E.length + bs.length + k2 := by simp only [List.length_append]; omega
          have hR5 := reads_gr (hr3' _ _ (by have := HR3.out; rwa [hl2e] at this)) HG5.out (fun a e _ => by injection e with e; subst e; rw [hb3', hb2]; exact hbn)
          refine ⟨ad3, c' - m - k2, l2.drop k2, E ++ bs ++ l2.take k2, by rw [hdl], by omega, by rw [hdl]; exact hR5, by rw [hb3', hb2]; exact hbn, by rw [hd2]; rfl, by omega, hby3, by simp only [hEl, Nat.sub_add_eq], by omega, HB5.out, hune2, hGr.trans hgr, hTab.gr hgr (by have := HX.out.2.2.2.2.2.2.2.2.2; omega), hErr.gr hgr (by have := HX.out.2.2.2.2.2.2.2.2.1; omega), ?_, ?_, ?_⟩
          · rw [hgr.cell (World.block_lt_of_cell? wr _ c0) (Nat.ne_of_lt (Nat.lt_succ_self _))]; exact c0
          · rw [hgr.cell (World.block_lt_of_cell? wr _ c0) (Nat.ne_of_lt (Nat.lt_succ_self _))]; exact c1
          · rw [hgr.cell (World.block_lt_of_cell? wr _ c0) (Nat.ne_of_lt (Nat.lt_succ_self _))]; exact c2
        case measure => simp only; omega
end Go.Proofs.YtgbliniamkpocaaDoor.Jp
