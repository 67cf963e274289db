import Derived.Test.Qxb6001235aCircMem
namespace Go.Proofs.Qxb6001235a
open Go.RowKit Go.Deep Go.Maps

/-- The components, as a walk reads them. -/
def CompAt (n : Nat) (comp : Nat → Int) (w : World) (ca : Option Addr) : Prop := ∀ v, v < n → ∃ b off, ca = some ⟨b, off, none⟩ ∧ w.cell? ⟨b, off + v, none⟩ = some (.int .i64 (comp v))

/-- What does not turn while a circle is looked for. -/
structure CG (R : List (List Int)) (n : Nat) (comp : Nat → Int) (start : Nat) (w0 : World) (B : Nat) (a : Option Addr) (cap : Nat) (ca : Option Addr) (cc : Nat) : Prop where
  hB : w0.heap.size = B
  small : n ≤ 65536
  sn : start < n
  vert : VertAt R n w0 a
  cat : CompAt n comp w0 ca

def CirclePost (R : List (List Int)) (n : Nat) (comp : Nat → Int) (start : Nat) (w0 : World) (B : Nat) (ev cv : Value) (vis : Nat → Bool) (path : List Nat) (v : Nat) (e : Ending) (w' : World) : Prop :=
  ∃ (b : Bool) (vis' : Nat → Bool) (path' : List Nat) (pv' : Value), e = .returned (.bool b) ∧ CW w0 B n start ev cv w' vis' path' pv' ∧ (b = true → Found n (adj R) comp start path') ∧ (b = false → path' = path ∧ CPost n (adj R) comp start vis v vis')

def WalkOk (R : List (List Int)) (n : Nat) (comp : Nat → Int) (start : Nat) (w0 : World) (B : Nat) (ev cv : Value) (fuel : Nat) : Prop :=
  ∀ (vis : Nat → Bool) (path : List Nat) (v : Nat) (pv : Value) (w : World), cnt (fun x => !vis x) n ≤ fuel → CPre n (adj R) comp start vis path v → CW w0 B n start ev cv w vis path pv →
    Calls Try.prog 31 #[.int .i64 v, .pointer (some ⟨B, 0, none⟩), .pointer (some ⟨B + 2, 0, none⟩), .pointer (some ⟨B + 4, 0, none⟩), .pointer (some ⟨B + 1, 0, none⟩), .pointer (some ⟨B + 6, 0, none⟩), .pointer (some ⟨B + 7, 0, none⟩)] w
      fun e w' => CirclePost R n comp start w0 B ev cv vis path v e w'

theorem cnt_not_mono {n : Nat} {vis vis' : Nat → Bool} (h : ∀ y, vis y = true → vis' y = true) : cnt (fun x => !vis' x) n ≤ cnt (fun x => !vis x) n :=
  cnt_mono (fun x _ hx => by
    cases hv : vis x with
    | false => rfl
    | true => rw [h x hv] at hx; cases hx)

theorem cnt_not_upd {n y : Nat} {vis : Nat → Bool} (hy : y < n) (hv : vis y = false) : cnt (fun x => !upd vis y true x) n + 1 = cnt (fun x => !vis x) n :=
  (cnt_add (p := fun x => !upd vis y true x) (q := fun x => !vis x) hy (by simp [upd_same]) (by simp [hv]) (fun x _ hx => by rw [upd_other _ _ hx])).symm

set_option maxHeartbeats 1600000 in
set_option maxRecDepth 100000 in
theorem walk_step (R : List (List Int)) (n : Nat) (comp : Nat → Int) (start : Nat) (w0 : World) (B : Nat) (a : Option Addr) (cap : Nat) (ca : Option Addr) (cc : Nat) (cg : CG R n comp start w0 B a cap ca cc) (fuel : Nat)
    (ih : WalkOk R n comp start w0 B (.slice a n cap) (.slice ca n cc) fuel) : WalkOk R n comp start w0 B (.slice a n cap) (.slice ca n cc) (fuel + 1) := by
  intro vis path v pv w hfuel pre cw
  have hv := pre.vn
  have hn := cg.small
  have IH : Hid (WalkOk R n comp start w0 B (.slice a n cap) (.slice ca n cc) fuel) := ih
  clear ih
  have hE := cg.vert.adj_lt
  have HE : Hid _ := hE
  obtain ⟨b, off, ra, rc, rl, rfl, h2, h3, h4, h5⟩ := cg.vert v hv
  have c2 := (cw.bel.cell (by rw [← cg.hB]; exact World.block_lt_of_cell? w0 _ h2)).trans h2
  have cE : w.cell? ⟨B, 0, none⟩ = some (.slice (some ⟨b, off, none⟩) n cap) := cw.rE.cell 0
  have HRL : Hid _ := h3
  have HEL : Hid _ := h5
  have L0 := cli_start pre
  clear h2 h3 h5 hE
  go_enter Try.func31, Try.ntmps31
  go_wp2_with fail
  clear c2 cE
  go_loopw [16] (fun i wr => ∃ (k : Nat) (vis1 : Nat → Bool) (pv1 : Value), k ≤ rl ∧ i = .int .i64 k ∧ CLI n (adj R) comp start vis v k vis1 ∧ CW w0 B n start (.slice (some ⟨b, off, none⟩) n cap) (.slice ca n cc) wr vis1 path pv1) (fun i _ => rl - (intOf i).toNat)
  case atStart => exact ⟨0, vis, pv, Nat.zero_le _, rfl, L0, cw⟩
  case round =>
    clear L0 cw
    obtain ⟨k, vis1, pv1, hk, rfl, L, cw⟩ := hrel
    by_cases hlt : k < rl
    · obtain ⟨rb, roff, y, rfl, h6, h7, hyn⟩ := HEL.out k hlt
      have c6 := (cw.bel.cell (by rw [← cg.hB]; exact World.block_lt_of_cell? w0 _ h6)).trans h6
      have hym := List.mem_of_getElem? h7
      have H7 : Hid _ := h7
      clear h6 h7
      have cS : wr.cell? ⟨B + 2, 0, none⟩ = some (.int .i64 (start : Int)) := cw.rS.cell 0
      have cP : wr.cell? ⟨B + 4, 0, none⟩ = some pv1 := cw.rP.cell 0
      have hplen := (pre.pok.mono L.mono).len L.vok
      by_cases hys : y = start
      · subst hys
        have hfound := found_of pre hym
        obtain ⟨i0, hi, hz0, hz1, hz2⟩ := info_parts info3
        go_wp2_with (at_builtin; refine wpList_append_fresh _ rfl (.tmp 24) (.tmp 26) 25 rfl B 3 i0 (.int .i64 0) 1 8 Try.underlying25 hi hz0 hz1 hz2 rfl (by decide) _ _ _ rfl (cw.own.alloc _) ⟨_, 0, none⟩ 1 1 [.int .i64 y] rfl rfl (cell_one_new _ _ _) (by intro u hu; simp at hu; subst hu; rfl) (by unfold maxLen; omega) (by omega) (by have := cw.big; simp; omega) ?_; intro pv2 w2 hown2 hgrow2 hfr2; obtain ⟨a2, cp2, hsv2⟩ := owns_shape hown2; subst hsv2; have c32 := ((cw.alloc (.cells #[.int .i64 y] 3)).keptRow hgrow2 (cw.alloc (.cells #[.int .i64 y] 3)).rP (by omega) (by omega)).cell 0; have f32 := ((cw.alloc (.cells #[.int .i64 y] 3)).keptRow hgrow2 (cw.alloc (.cells #[.int .i64 y] 3)).rP (by omega) (by omega)).frozen 0; simp only [List.getElem?_cons_zero] at c32)
        go_ret
        exact ⟨true, vis1, path ++ [y], _, rfl, (cw.alloc _).grow hgrow2 (path' := path ++ [y]) (by simpa using hown2) hfr2, fun _ => hfound, fun h => by cases h⟩
      · have hb : ((y : Int) == (start : Int)) = false := by simp; omega
        have HYS : Hid _ := hys
        clear hys
        have cC : wr.cell? ⟨B + 1, 0, none⟩ = some (.slice ca n cc) := cw.rC.cell 0
        have cV : wr.cell? ⟨B + 6, 0, none⟩ = some (.map (some (B + 5))) := cw.rV.cell 0
        obtain ⟨cb, coff, rfl, h8⟩ := cg.cat y hyn
        have c8 := (cw.bel.cell (by rw [← cg.hB]; exact World.block_lt_of_cell? w0 _ h8)).trans h8
        obtain ⟨cb', coff', he, h9⟩ := cg.cat start cg.sn
        cases he
        have c9 := (cw.bel.cell (by rw [← cg.hB]; exact World.block_lt_of_cell? w0 _ h9)).trans h9
        clear h8 h9
        have hlook : ∀ q, (Instr.lookup 35 (.map (some (B + 5))) (.int .i64 (y : Int)) false).run Try.prog (wr.drewN q) = .ok (.bool (vis1 y)) (wr.drewN q) := fun q => (cw.mp.drewN q).look (by omega)
        have hsn := cg.sn
        by_cases hcl : comp y = comp start
        · rw [hcl] at c8
          cases hvy : vis1 y with
          | true =>
            rw [hvy] at hlook
            have HVY : Hid _ := hvy
            clear hvy
            go_wp2_with fail
            go_quiet (fail)
            go_wp2_with fail
            go_roundw
            case rel => exact ⟨k + 1, vis1, pv1, by omega, by go_num, skip_cli L H7.out HYS.out (fun _ => HVY.out), cw.drewN _⟩
            case measure => simp [intOf]; omega
          | false =>
            rw [hvy] at hlook
            have pre2 := child_cpre pre L hym hyn HYS.out hcl hvy
            have hcn : cnt (fun x => !upd vis1 y true x) n ≤ fuel := by
              have h1 := cnt_not_upd hyn hvy
              have h2 := cnt_not_mono (n := n) L.mono
              omega
            have HVY : Hid _ := hvy
            have HCN : Hid _ := hcn
            clear hvy hcl hcn
            go_wp2_with fail
            go_quiet (fail)
            have cw1 := cw.drewN nq
            clear cw
            obtain ⟨D, hD, hat⟩ := cw1.mp
            have hDm := hD.isMap
            have hkey := keyOf_int_mk (P := Try.prog) Try.underlying3 (key_wf (y := y) (by omega))
            have hcm : cnt vis1 n < maxLen := by have := cnt_le vis1 n; unfold maxLen; omega
            have HAT : Hid _ := hat
            clear hat
            go_upto_region 8 with fail
            go_cut [] (fun wc => CW w0 B n start (.slice (some ⟨b, off, none⟩) n cap) (.slice (some ⟨cb, coff, none⟩) n cc) wc (upd vis1 y true) path pv1)
            case first =>
              go_wp2_with (at_mapUpdate; refine wpList_mapUpdate_own _ rfl _ _ _ 35 rfl 3 4 law3 Try.underlying35 _ (B + 5) (cnt vis1 n) D rfl hD hcm _ _ _ rfl rfl hkey _ [] (plainElem_bool Try.underlying4 true) ?_; intro w1 hown1 hgrow1)
              go_meet
              exact cw1.mark hgrow1 (BMap.put hDm HAT.out hyn HVY.out hown1)
            case rest =>
            clear hD hDm hkey hcm HAT cw1 hlook c6 cS cC cV c8 c9 cP
            have cw2 := hcut
            clear hcut
            have cP : wc.cell? ⟨B + 4, 0, none⟩ = some pv1 := cw2.rP.cell 0
            go_upto_region 9 with fail
            go_cut [] (fun wc => ∃ pv2, CW w0 B n start (.slice (some ⟨b, off, none⟩) n cap) (.slice (some ⟨cb, coff, none⟩) n cc) wc (upd vis1 y true) (path ++ [y]) pv2)
            case first =>
              obtain ⟨i0, hi, hz0, hz1, hz2⟩ := info_parts info3
              go_wp2_with (at_builtin; refine wpList_append_fresh _ rfl (.tmp 46) (.tmp 48) 25 rfl B 3 i0 (.int .i64 0) 1 8 Try.underlying25 hi hz0 hz1 hz2 rfl (by decide) _ _ _ rfl (cw2.own.alloc _) ⟨_, 0, none⟩ 1 1 [.int .i64 y] rfl rfl (cell_one_new _ _ _) (by intro u hu; simp at hu; subst hu; rfl) (by unfold maxLen; omega) (by omega) (by have := cw2.big; simp; omega) ?_; intro pv2 w2 hown2 hgrow2 hfr2; obtain ⟨a2, cp2, hsv2⟩ := owns_shape hown2; subst hsv2; have c32 := ((cw2.alloc (.cells #[.int .i64 y] 3)).keptRow hgrow2 (cw2.alloc (.cells #[.int .i64 y] 3)).rP (by omega) (by omega)).cell 0; have f32 := ((cw2.alloc (.cells #[.int .i64 y] 3)).keptRow hgrow2 (cw2.alloc (.cells #[.int .i64 y] 3)).rP (by omega) (by omega)).frozen 0; simp only [List.getElem?_cons_zero] at c32)
              go_meet
              exact ⟨_, (cw2.alloc _).grow hgrow2 (path' := path ++ [y]) (by simpa using hown2) hfr2⟩
            case rest =>
            clear cw2 cP
            obtain ⟨pv2, cw3⟩ := hcut
            have cW : wc.cell? ⟨B + 7, 0, none⟩ = some (fvC B) := cw3.rW.cell 0
            unfold fvC at cW
            go_wp2_with fail
            refine (IH.out (upd vis1 y true) (path ++ [y]) y pv2 wc HCN.out pre2 cw3).mono ?_
            rintro e w4 ⟨res, vis4, path4, pv4, rfl, cw4, hT, hF⟩
            clear cw3 cW
            cases res with
            | true =>
              have hfound := hT rfl
              clear hT hF
              go_wp2_with fail
              go_ret
              exact ⟨true, vis4, path4, pv4, rfl, cw4, fun _ => hfound, fun h => by cases h⟩
            | false =>
              obtain ⟨hp4, hpost⟩ := hF rfl
              clear hT hF
              subst hp4
              obtain ⟨gs, cp, hsv, _, hcp, hpop⟩ := owns_top cw4.own
              subst hsv
              have cP : w4.cell? ⟨B + 4, 0, none⟩ = some (.slice (some ⟨gs, 0, none⟩) (path.length + 1) cp) := cw4.rP.cell 0
              have fP := cw4.rP.frozen 0
              have cw5 := cw4.shrink (path' := path) hpop rfl
              have L2 := child_cli L H7.out HYS.out HVY.out hpost
              clear cw4 hpost hpop L
              go_wp2_with fail
              go_roundw
              case rel => exact ⟨k + 1, vis4, _, by omega, by go_num, L2, cw5⟩
              case measure => simp [intOf]; omega
        · have hcb : (comp y == comp start) = false := by simpa using hcl
          have HCL : Hid _ := hcl
          clear hcl
          go_wp2_with fail
          go_quiet (fail)
          go_wp2_with fail
          go_roundw
          case rel => exact ⟨k + 1, vis1, pv1, by omega, by go_num, skip_cli L H7.out HYS.out (fun h => absurd h HCL.out), cw.drewN _⟩
          case measure => simp [intOf]; omega
    · obtain rfl : rl = k := by omega
      rw [HRL.out] at L
      have hpost := cpost_of L
      have HP : Hid _ := hpost
      clear hpost
      go_wp2_with fail
      go_ret
      exact ⟨false, vis1, path, pv1, rfl, cw, (fun h => by cases h), fun _ => ⟨rfl, HP.out⟩⟩

theorem walk_any (R : List (List Int)) (n : Nat) (comp : Nat → Int) (start : Nat) (w0 : World) (B : Nat) (a : Option Addr) (cap : Nat) (ca : Option Addr) (cc : Nat) (cg : CG R n comp start w0 B a cap ca cc) (fuel : Nat) :
    WalkOk R n comp start w0 B (.slice a n cap) (.slice ca n cc) fuel := by
  induction fuel with
  | zero =>
    intro vis path v pv w hfuel pre cw
    have h1 : vis start = false := by
      cases e : vis start with
      | false => rfl
      | true => exact absurd rfl (pre.vok start e).2.2
    have h2 := cnt_pos (p := fun x => !vis x) pre.sn (by simp [h1])
    omega
  | succ fuel ih => exact walk_step R n comp start w0 B a cap ca cc cg fuel ih
end Go.Proofs.Qxb6001235a
