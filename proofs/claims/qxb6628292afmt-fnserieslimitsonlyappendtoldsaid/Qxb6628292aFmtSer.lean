import Derived.Test.Qxb6628292aFmtSerP
import Derived.Deep.RegionHeld3
import Derived.Deep.RegionLaw
import Derived.Deep.CutRange
namespace Go.Proofs.Qxb6628292aFmt
open Go.RowKit Go.Extern.Stop Go.Stop Go.Extern
attribute [local go_sem] run_store_float

def reqB : ByteArray := ⟨#[107, 117, 98, 101, 95, 112, 111, 100, 95, 99, 111, 110, 116, 97, 105, 110, 101, 114, 95, 114, 101, 115, 111, 117, 114, 99, 101, 95, 114, 101, 113, 117, 101, 115, 116, 115]⟩
def limB : ByteArray := ⟨#[107, 117, 98, 101, 95, 112, 111, 100, 95, 99, 111, 110, 116, 97, 105, 110, 101, 114, 95, 114, 101, 115, 111, 117, 114, 99, 101, 95, 108, 105, 109, 105, 116, 115]⟩
def cpuS : ByteArray := ⟨#[44, 114, 101, 115, 111, 117, 114, 99, 101, 61, 34, 99, 112, 117, 34, 44, 117, 110, 105, 116, 61, 34, 99, 111, 114, 101, 34]⟩
def memS : ByteArray := ⟨#[44, 114, 101, 115, 111, 117, 114, 99, 101, 61, 34, 109, 101, 109, 111, 114, 121, 34, 44, 117, 110, 105, 116, 61, 34, 98, 121, 116, 101, 34]⟩

/-- what constant hands back, over the week -/
def KAns (m l : ByteArray) (v : Nat) (W : World) (e : Ending) (w' : World) : Prop :=
  ∃ b, e = .returned (.agg #[.string m, .string l, .slice (some ⟨b, 0, none⟩) 20159 20159]) ∧ Row w' ⟨m, l, v, b⟩ ∧ Below W.heap.size W w'

def key (g : Sg) : ByteArray × ByteArray × Nat := (g.m, g.l, g.v)
/-- a limit's series, where the limit is not zero -/
def opt (v : Nat) (x : ByteArray × ByteArray × Nat) : List (ByteArray × ByteArray × Nat) := if FloatKind.f64.format.order v 0 = some .eq then [] else [x]
def serK (cpu mem : ByteArray) (f1 f2 f3 f4 : Nat) : List (ByteArray × ByteArray × Nat) := [(reqB, cpu, f1), (reqB, mem, f3)] ++ opt f2 (limB, cpu, f2) ++ opt f4 (limB, mem, f4)

theorem cells_new (W : World) (cs : List Value) (t : TypeId) : ∀ j u, cs[j]? = some u → (W.alloc (.cells cs.toArray t)).cell? ((⟨W.heap.size, 0, none⟩ : Addr).add j) = some u := by
  intro j u hu
  rw [Go.WideShapes.add_plain]
  have e := heap_alloc_new W (.cells cs.toArray t)
  have hz : (0 : Nat) + j = j := Nat.zero_add j
  unfold World.cell?
  rw [e]
  simpa using hu

theorem row_shape {w : World} {base : Nat} {e : TypeId} {s n : Nat} {v : Value} {ys : List Value} (h : w.ownsRow base e s v n ys) : ∃ ao cap, v = .slice ao n cap := by
  rcases h.2 with ⟨hv, h0⟩ | ⟨g, cap, cur, hv, _⟩
  · exact ⟨none, 0, by rw [hv, h0]⟩
  · exact ⟨_, _, hv⟩

theorem scell_one (g : Sg) : ∀ u ∈ scell g, u.oneCell' = true := by
  intro u hu
  simp [scell] at hu
  rcases hu with rfl | rfl | rfl <;> rfl

theorem SInv.bel {base : Nat} {w0 w w' : World} {v : Value} {gs : List Sg} {o : Obj} (h : SInv base w v gs) (hb : Below base w0 w) (hz : base ≤ w0.heap.size) (hg : (w.alloc o).grownBy w' v.ownBlock) : Below base w0 w' := by
  have h1 := hb.size
  exact (hb.alloc (by omega) o).grown hg (by simp; omega) (fun k hk => (h.own.lt k hk).1)

/-- what series hands back -/
def SAns (L : ByteArray) (f1 f2 f3 f4 : Nat) (w : World) (e : Ending) (w' : World) : Prop :=
  ∃ v gs, e = .returned (.tuple #[v, .nilIface]) ∧ Ss w' v gs ∧ gs.map key = serK (L ++ cpuS) (L ++ memS) f1 f2 f3 f4 ∧ Below w.heap.size w w'

set_option maxHeartbeats 1000000 in
theorem series_any (F : Interp) (a b c : ByteArray) (f1 f2 f3 f4 : Nat) (w : World) (hF : F.answers w.tape) (hl : (labB F a b c).size ≤ 2000000) :
    Calls Tryf.prog 13 #[.agg #[.string a, .string b, .string c, .float .f64 f1, .float .f64 f2, .float .f64 f3, .float .f64 f4], .slice none 0 0, .map none] w fun e w' => SAns (labB F a b c) f1 f2 f3 f4 w e w' := by
  obtain ⟨i0, hi0, hz0, hz1, hz2⟩ := info_parts Tryf.info3
  have HI0 : Hid (Tryf.prog.info? 3 = some i0 ∧ i0.zero = some (.int .i64 0) ∧ i0.size = 1 ∧ i0.bytes = 8) := ⟨hi0, hz0, hz1, hz2⟩
  clear hi0 hz0 hz1 hz2
  obtain ⟨i1, hi1, hy0, hy1, hy2⟩ := info_parts Tryf.info36
  have HI1 : Hid (Tryf.prog.info? 36 = some i1 ∧ i1.zero = some (.agg #[.string ⟨#[]⟩, .string ⟨#[]⟩, .slice none 0 0]) ∧ i1.size = 3 ∧ i1.bytes = 56) := ⟨hi1, hy0, hy1, hy2⟩
  clear hi1 hy0 hy1 hy2
  have HF : Hid (F.answers w.tape) := hF
  have HL : Hid ((labB F a b c).size ≤ 2000000) := hl
  clear hF hl
  obtain ⟨w1, hw1⟩ : ∃ w1, w.alloc (.cells #[.string a, .string b, .string c, .float .f64 f1, .float .f64 f2, .float .f64 f3, .float .f64 f4] 25) = w1 := ⟨_, rfl⟩
  have hb1 : Below w.heap.size w w1 := by rw [← hw1]; exact (Below.refl _ _).alloc (Nat.le_refl _) _
  have HB1 := Hid.mk' hb1
  have b0 : w1.heap[w.heap.size]? = some (.cells #[.string a, .string b, .string c, .float .f64 f1, .float .f64 f2, .float .f64 f3, .float .f64 f4] 25) := by rw [← hw1]; exact heap_alloc_new _ _
  have k0 : w1.cell? ⟨w.heap.size, 0, none⟩ = some (.string a) := by simp [World.cell?, b0]
  have k1 : w1.cell? ⟨w.heap.size, 1, none⟩ = some (.string b) := by simp [World.cell?, b0]
  have k2 : w1.cell? ⟨w.heap.size, 2, none⟩ = some (.string c) := by simp [World.cell?, b0]
  have k3 : w1.cell? ⟨w.heap.size, 3, none⟩ = some (.float .f64 f1) := by simp [World.cell?, b0]
  have k4 : w1.cell? ⟨w.heap.size, 4, none⟩ = some (.float .f64 f2) := by simp [World.cell?, b0]
  have k5 : w1.cell? ⟨w.heap.size, 5, none⟩ = some (.float .f64 f3) := by simp [World.cell?, b0]
  have k6 : w1.cell? ⟨w.heap.size, 6, none⟩ = some (.float .f64 f4) := by simp [World.cell?, b0]
  have HW1 := Hid.mk' hw1
  clear hb1 b0 hw1
  go_enter Tryf.func13, Tryf.ntmps13
  go_wp2_with fail
  rw [HW1.out]
  clear HW1
  go_loopw [8, 9] (fun v t wr => ∃ k : Nat, k ≤ 20159 ∧ t = .int .i64 (wk k) ∧ WInv w1 wr v k) (fun _ t _ => (1768176000 - intOf t).toNat)
  case atStart => exact ⟨0, Nat.zero_le _, rfl, World.ownsRow_nil _ _ _ _, Below.refl _ _⟩
  case round =>
    obtain ⟨k, hk, rfl, hinv⟩ := hrel
    have HI := Hid.mk' hinv
    clear hinv
    by_cases hlt : k < 20159
    · have HK : Hid (k < 20159) := hlt
      have HT : Hid (wk (k + 1) = wk k + 30 ∧ wk k < 1768176000 ∧ 0 ≤ wk k) := by
        show _ ∧ _ ∧ _
        unfold wk
        omega
      obtain ⟨T, hT⟩ : ∃ T, wk k = T := ⟨_, rfl⟩
      rw [hT] at HT ⊢
      have h1 := HT.out.2.1
      have h2 := HT.out.2.2
      have HTT := Hid.mk' hT
      have hzr : Hid (w1.heap.size ≤ wr.heap.size) := HI.out.bel.size
      clear hlt hk hT
      go_wp2_with (at_builtin; refine wpList_append_own _ rfl _ _ 48 rfl w1.heap.size 3 i0 (.int .i64 0) 1 8 Tryf.underlying48 HI0.out.1 HI0.out.2.1 HI0.out.2.2.1 HI0.out.2.2.2 rfl (by decide) _ _ _ rfl (HI.out.own.alloc _) ⟨wr.heap.size, 0, none⟩ 1 1 [.int .i64 T] rfl rfl ?c1 ?c2 ?c3 ?c4 ?c5 ?_)
      case c1 => exact cell_one_new _ _ _
      case c2 => intro u hu; simp at hu; subst hu; rfl
      case c3 => have := HK.out; unfold maxLen; omega
      case c4 => have := HK.out; omega
      case c5 => have := hzr.out; simp; omega
      intro v' w3 hown hgrow _
      have HN : Hid (WInv w1 w3 v' (k + 1)) := HI.out.step (by rw [HTT.out]; exact hown) hgrow
      clear hown hgrow
      go_wp2_with fail
      go_roundw
      case rel => exact ⟨k + 1, by have := HK.out; omega, by rw [HT.out.1], HN.out⟩
      case measure => simp [intOf]; omega
    · obtain rfl : k = 20159 := by omega
      have HWk : Hid (Wk wr u8 20159 wk) := HI.out.wk (by omega)
      have HBr := Hid.mk' HI.out.bel
      obtain ⟨g, cap, hv, hc1, hc2, _⟩ := HWk.out
      subst hv
      have hT : wk 20159 = 1768176000 := by rfl
      rw [hT]
      have k0r := cell_step k0 HBr.out
      have k1r := cell_step k1 HBr.out
      have k2r := cell_step k2 HBr.out
      have k3r := cell_step k3 HBr.out
      have k4r := cell_step k4 HBr.out
      have k5r := cell_step k5 HBr.out
      have k6r := cell_step k6 HBr.out
      have HB2 : Hid (Below w.heap.size w wr) := HB1.out.trans (HBr.out.mono HB1.out.size)
      clear HI hk hlt hc1 hc2 k0 k1 k2 k3 k4 k5 k6
      go_wp2_with fail
      refine (labels_any F a b c wr (by rw [HB2.out.tape]; exact HF.out)).mono ?_
      rintro e w2 ⟨rfl, hb2⟩
      have k32 := cell_step k3r hb2
      have k42 := cell_step k4r hb2
      have k52 := cell_step k5r hb2
      have k62 := cell_step k6r hb2
      have HB3 : Hid (Below w.heap.size w w2) := HB2.out.trans (hb2.mono HB2.out.size)
      have HWk2 := Hid.mk' (HWk.out.keep hb2)
      obtain ⟨L, hL⟩ : ∃ L, labB F a b c = L := ⟨_, rfl⟩
      rw [hL] at HL ⊢
      have HLe := Hid.mk' hL
      have hls := HL.out
      clear hL hb2 k0r k1r k2r k3r k4r k5r k6r
      have HC1 : Hid (∀ W, Below w2.heap.size w2 W → ∀ m l v, Calls Tryf.prog 19 #[.string m, .string l, .float .f64 v, .slice (some ⟨g, 0, none⟩) 20159 cap] W fun e w' => KAns m l v W e w') := fun W hb m l v => by
        refine (constant_any m l v _ 20159 wk W (by omega) (HWk2.out.keep hb)).mono ?_
        rintro e w' ⟨b, rfl, h1, h2⟩
        exact ⟨b, rfl, h1, h2⟩
      obtain ⟨cpu, hcpu⟩ : ∃ x, L ++ cpuS = x := ⟨_, rfl⟩
      obtain ⟨mem, hmem⟩ : ∃ x, L ++ memS = x := ⟨_, rfl⟩
      have k32d : w2.drew.cell? ⟨w.heap.size, 3, none⟩ = some (.float .f64 f1) := k32
      have k52d : w2.drew.cell? ⟨w.heap.size, 5, none⟩ = some (.float .f64 f3) := k52
      have HR1 : Hid (∀ W, Below w2.heap.size w2 W → Calls Tryf.prog 19 #[.string ⟨#[107, 117, 98, 101, 95, 112, 111, 100, 95, 99, 111, 110, 116, 97, 105, 110, 101, 114, 95, 114, 101, 115, 111, 117, 114, 99, 101, 95, 114, 101, 113, 117, 101, 115, 116, 115]⟩, .string cpu, .float .f64 f1, .slice (some ⟨g, 0, none⟩) 20159 cap] W fun e w' => KAns reqB cpu f1 W e w') := fun W hb => HC1.out W hb reqB cpu f1
      have HR2 : Hid (∀ W, Below w2.heap.size w2 W → Calls Tryf.prog 19 #[.string ⟨#[107, 117, 98, 101, 95, 112, 111, 100, 95, 99, 111, 110, 116, 97, 105, 110, 101, 114, 95, 114, 101, 115, 111, 117, 114, 99, 101, 95, 114, 101, 113, 117, 101, 115, 116, 115]⟩, .string mem, .float .f64 f3, .slice (some ⟨g, 0, none⟩) 20159 cap] W fun e w' => KAns reqB mem f3 W e w') := fun W hb => HC1.out W hb reqB mem f3
      go_upto_region 8 with fail
      have HCp := Hid.mk' hcpu
      have HMm := Hid.mk' hmem
      unfold cpuS at hcpu
      unfold memS at hmem
      rw [hcpu, hmem]
      clear hcpu hmem
      go_cut [13] from 33 to 43 (fun s13 wx => ∃ b1 b2, SInv w2.heap.size wx s13 [⟨reqB, cpu, f1, b1⟩, ⟨reqB, mem, f3, b2⟩] ∧ Below w2.heap.size w2 wx)
      case first =>
        go_wp2_with fail
        go_region_law (first
          | (have hb23 := HB23.out; rw [if_pos (by rfl)]; go_simp; go_at_call 19; refine (HR2.out _ hb23).mono ?_; clear hb23; rintro e w4 ⟨b2, rfl, hr2, hb4⟩; have k44 := cell_step k43 hb4; have k64 := cell_step k63 hb4; have HR42 := Hid.mk' hr2; have HR41 := Hid.mk' (HR31.out.keep hb4); have HB24 : Hid (Below w2.heap.size w2 w4) := HB23.out.trans (hb4.mono HB23.out.size); clear hr2 hb4; dsimp only)
          | (rw [if_pos (by rfl)]; go_simp; go_at_call 19; refine (HR1.out _ (Below.refl _ _).drew).mono ?_; rintro e w3 ⟨b1, rfl, hr1, hb3⟩; have k43 := cell_step (show w2.drew.cell? _ = _ from k42) hb3; have k53 := cell_step k52d hb3; have k63 := cell_step (show w2.drew.cell? _ = _ from k62) hb3; have HR31 := Hid.mk' hr1; have HB23 : Hid (Below w2.heap.size w2 w3) := (Below.refl w2.heap.size w2).drew.trans hb3; clear hr1 hb3; dsimp only))
        all_goals (go_wp2_with fail; go_meet)
        all_goals exact ⟨b1, b2, SInv.two w2.heap.size w4 HB24.out.size ⟨reqB, cpu, f1, b1⟩ ⟨reqB, mem, f3, b2⟩ HR41.out HR42.out, HB24.out.alloc HB24.out.size _⟩
      case rest =>
        obtain ⟨b1, b2, hs0, hbc⟩ := hcut
        have HS0 := Hid.mk' hs0
        have HBc := Hid.mk' hbc
        have k4c := cell_step k42 hbc
        have k6c := cell_step k62 hbc
        obtain ⟨so, sc, hsv⟩ := row_shape hs0.own
        subst hsv
        clear hs0 hbc k32 k42 k52 k32d k52d HR1 HR2
        go_upto_if 46 with fail
        obtain ⟨z, hz⟩ : ∃ z : Bool, (FloatKind.f64.format.order f2 0 != some .eq) = z := ⟨_, rfl⟩
        rw [hz]
        go_cut [13] from 47 to 54 (fun s13 wx => ∃ gs, SInv w2.heap.size wx s13 gs ∧ gs.map key = [(reqB, cpu, f1), (reqB, mem, f3)] ++ opt f2 (limB, cpu, f2) ∧ Below w2.heap.size w2 wx)
        case first =>
          cases z with
          | false =>
            have HZ : Hid (FloatKind.f64.format.order f2 0 = some .eq) := by show _ = _; simpa using hz
            clear hz
            go_wp2_with fail
            go_meet
            case rel => exact ⟨_, HS0.out, by simp [opt, HZ.out, key], HBc.out⟩
          | true =>
            replace hz : ¬ FloatKind.f64.format.order f2 0 = some .eq := by simpa using hz
            have HZ := Hid.mk' hz
            have HRl : Hid (∀ W, Below w2.heap.size w2 W → Calls Tryf.prog 19 #[.string ⟨#[107, 117, 98, 101, 95, 112, 111, 100, 95, 99, 111, 110, 116, 97, 105, 110, 101, 114, 95, 114, 101, 115, 111, 117, 114, 99, 101, 95, 108, 105, 109, 105, 116, 115]⟩, .string cpu, .float .f64 f2, .slice (some ⟨g, 0, none⟩) 20159 cap] W fun e w' => KAns limB cpu f2 W e w') := fun W hb => HC1.out W hb limB cpu f2
            clear hz
            go_wp2_with fail
            refine (HRl.out _ HBc.out).mono ?_
            rintro e w5 ⟨b3, rfl, hr3, hb5⟩
            have HR3 := Hid.mk' hr3
            have HS5 := Hid.mk' (HS0.out.keep hb5)
            have HB5 : Hid (Below w2.heap.size w2 w5) := HBc.out.trans (hb5.mono HBc.out.size)
            clear hr3 hb5
            go_wp2_with (at_builtin; refine wpList_append_own _ rfl _ _ 26 rfl w2.heap.size 36 i1 _ 3 56 Tryf.underlying26 HI1.out.1 HI1.out.2.1 HI1.out.2.2.1 HI1.out.2.2.2 rfl (by decide) _ _ _ rfl (HS5.out.own.alloc _) ⟨w5.heap.size, 0, none⟩ 1 1 (scell ⟨limB, cpu, f2, b3⟩) rfl rfl ?c1 ?c2 ?c3 ?c4 ?c5 ?_)
            case c1 => exact cells_new _ _ _
            case c2 => exact scell_one _
            case c3 => show 2 + 1 ≤ maxLen; decide
            case c4 => show (2 + 1) * 56 ≤ _; decide
            case c5 => have := HB5.out.size; simp; omega
            intro v' w6 hown hgrow _
            have HN : Hid (SInv w2.heap.size w6 v' ([⟨reqB, cpu, f1, b1⟩, ⟨reqB, mem, f3, b2⟩] ++ [⟨limB, cpu, f2, b3⟩])) := HS5.out.step HR3.out hown hgrow
            have HB6 : Hid (Below w2.heap.size w2 w6) := HS5.out.bel HB5.out (Nat.le_refl _) hgrow
            clear hown hgrow
            go_wp2_with fail
            go_meet
            case rel => exact ⟨_, HN.out, by simp [opt, HZ.out, key], HB6.out⟩
        case rest =>
          obtain ⟨gs, hs1, hkey, hbd⟩ := hcut
          have HS1 := Hid.mk' hs1
          have HBd := Hid.mk' hbd
          have HKey := Hid.mk' hkey
          have hgl := congrArg List.length hkey
          rw [List.length_map] at hgl
          have HGl : Hid (0 < gs.length ∧ gs.length ≤ 3) := by
            show _ ∧ _
            rw [hgl]
            unfold opt
            split <;> simp
          have k6d := cell_step k62 hbd
          obtain ⟨so, sc, hsv⟩ := row_shape hs1.own
          subst hsv
          clear hs1 hbd hkey hgl hz k4c k6c
          by_cases hz : FloatKind.f64.format.order f4 0 = some .eq
          · have hz2 : (FloatKind.f64.format.order f4 0 != some .eq) = false := by simp [hz]
            have HZ := Hid.mk' hz
            clear hz
            go_wp2_with fail
            go_ret2
            refine ⟨.slice so gs.length sc, gs, rfl, HS1.out.ss HGl.out.1, ?_, HB3.out.trans (HBd.out.mono HB3.out.size)⟩
            rw [HLe.out, HCp.out, HMm.out, HKey.out]
            simp [serK, opt, HZ.out]
          · have hz2 : (FloatKind.f64.format.order f4 0 != some .eq) = true := by simpa using hz
            have HZ := Hid.mk' hz
            have HRl : Hid (∀ W, Below w2.heap.size w2 W → Calls Tryf.prog 19 #[.string ⟨#[107, 117, 98, 101, 95, 112, 111, 100, 95, 99, 111, 110, 116, 97, 105, 110, 101, 114, 95, 114, 101, 115, 111, 117, 114, 99, 101, 95, 108, 105, 109, 105, 116, 115]⟩, .string mem, .float .f64 f4, .slice (some ⟨g, 0, none⟩) 20159 cap] W fun e w' => KAns limB mem f4 W e w') := fun W hb => HC1.out W hb limB mem f4
            clear hz
            go_wp2_with fail
            refine (HRl.out _ HBd.out).mono ?_
            rintro e w5 ⟨b3, rfl, hr3, hb5⟩
            have HR3 := Hid.mk' hr3
            have HS5 := Hid.mk' (HS1.out.keep hb5)
            have HB5 : Hid (Below w2.heap.size w2 w5) := HBd.out.trans (hb5.mono HBd.out.size)
            clear hr3 hb5
            go_wp2_with (at_builtin; refine wpList_append_own _ rfl _ _ 26 rfl w2.heap.size 36 i1 _ 3 56 Tryf.underlying26 HI1.out.1 HI1.out.2.1 HI1.out.2.2.1 HI1.out.2.2.2 rfl (by decide) _ _ _ rfl (HS5.out.own.alloc _) ⟨w5.heap.size, 0, none⟩ 1 1 (scell ⟨limB, mem, f4, b3⟩) rfl rfl ?c1 ?c2 ?c3 ?c4 ?c5 ?_)
            case c1 => exact cells_new _ _ _
            case c2 => exact scell_one _
            case c3 => have := HGl.out; unfold maxLen; omega
            case c4 => have := HGl.out; omega
            case c5 => have := HB5.out.size; simp; omega
            intro v' w6 hown hgrow _
            have HN : Hid (SInv w2.heap.size w6 v' (gs ++ [⟨limB, mem, f4, b3⟩])) := HS5.out.step HR3.out hown hgrow
            have HB6 : Hid (Below w2.heap.size w2 w6) := HS5.out.bel HB5.out (Nat.le_refl _) hgrow
            clear hown hgrow
            go_wp2_with fail
            go_ret2
            refine ⟨v', gs ++ [⟨limB, mem, f4, b3⟩], rfl, HN.out.ss (by simp), ?_, HB3.out.trans (HB6.out.mono HB3.out.size)⟩
            rw [HLe.out, HCp.out, HMm.out, List.map_append, HKey.out]
            simp [serK, opt, HZ.out, key]
end Go.Proofs.Qxb6628292aFmt
