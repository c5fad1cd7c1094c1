/- THE BOUNDS ON A CANDIDATE'S SHARE: the law's abounds, the program's logShare: the same, up to a NaN's bits. -/
import Derived.Test.YbulkdpsgRatio
namespace Go.Proofs.Ybulkdpsg
open Go Go.RowKit
set_option linter.unusedVariables false

def Sh20 (z side : Nat) (sign hv : Int) (s : Nat) : Prop := ∀ z', Rel z' z → ∀ w, Calls Yba.prog 20 #[.float .f64 z', .float .f64 side, .int .i64 sign, .float .f64 (floatOfInt .f64 hv)] w fun e w' => ∃ r n, e = .returned (.float .f64 r) ∧ Rel r s ∧ w' = w.drewN n
def Sh27 (z side : Nat) (sign hv : Int) (s : Nat) : Prop := ∀ (bs bj sb hb j m : Nat), j < m → ∀ z', Rel z' z → ∀ w : World, w.cell? ⟨bs, 0, none⟩ = some (.pointer (some ⟨sb, 0, none⟩)) → w.cell? ⟨bj, 0, none⟩ = some (.int .i64 (j : Int)) →
  w.cell? ⟨sb, 3, none⟩ = some (.int .i64 sign) → w.cell? ⟨sb, 7, none⟩ = some (.slice (some ⟨hb, 0, none⟩) m m) → w.cell? ⟨hb, j, none⟩ = some (.int .i32 hv) →
  Calls Yba.prog 27 #[.float .f64 z', .float .f64 side, .pointer (some ⟨bs, 0, none⟩), .pointer (some ⟨bj, 0, none⟩)] w fun e w' => ∃ r n, e = .returned (.float .f64 r) ∧ Rel r s ∧ w' = w.drewN n

/-- What is not 'z <= 0' is a NaN or positive: '-z' is a NaN or negative. -/
theorem neg_arg (z : Nat) (hz : z < 18446744073709551616) (h : nonpos z = false) : NegArg (fneg z) := by
  obtain ⟨e1, e2⟩ := fneg_rung z hz
  by_cases hn : 9218868437227405312 < rungOf z
  · exact .inl ⟨e2, by rw [e1]; exact hn⟩
  · have hm := hn
    unfold rungOf at hm
    by_cases h0 : z = 0
    · subst h0; exact absurd h (by decide +kernel)
    · by_cases h1 : z = 9223372036854775808
      · subst h1; exact absurd h (by decide +kernel)
      · by_cases h2 : z = 18442240474082181120
        · subst h2; exact absurd h (by decide +kernel)
        · by_cases h3 : 9223372036854775808 < z
          · exfalso
            have hf : NF z := ⟨h3, ⟨hz, by unfold rungOf; omega⟩⟩
            have := hf.negFin.neg
            unfold nonpos at h
            rw [this] at h
            cases h
          · refine .inr ?_
            unfold fneg
            rw [if_pos (by omega)]
            omega

/-- One answer of both. -/
theorem share_both (z side : Nat) (hz : z < 18446744073709551616) (rs : Rel side side) (sign hv : Int) : ∃ s, Sh20 z side sign hv s ∧ Sh27 z side sign hv s := by
  cases hc : nonpos z with
  | true =>
    refine ⟨18442240474082181120, fun z' hr w => ?_, fun bs bj sb hb j m hj z' hr w c1 c2 s3 s7 hcc => ?_⟩
    · exact (inf_share z side sign _ hc z' hr w).mono fun e w' ⟨he, hw⟩ => ⟨_, 0, he, Rel.refl (by decide), hw.symm⟩
    · exact (inf_share27 z side hc bs bj z' hr w).mono fun e w' ⟨he, hw⟩ => ⟨_, 0, he, Rel.refl (by decide), hw.symm⟩
  | false =>
    obtain ⟨e, hel, he⟩ := expm1_any _ (neg_arg z hz hc)
    obtain ⟨l, hl⟩ := log_any (fneg e) (fneg_rung e hel).2
    exact ⟨_, fun z' hr w => num_share z side sign _ e l _ hc rs (rel_int hv) he hl rfl z' hr w, fun bs bj sb hb j m hj z' hr w c1 c2 s3 s7 hcc => num_share27 z side sign hv e l _ hc rs he hl rfl bs bj sb hb j m hj z' hr w c1 c2 s3 s7 hcc⟩

/-- z = sign x log(F/F_ref). -/
def zF (sign : Int) (V : Nat) : Nat := fop .mul (floatOfInt .f64 sign) V

set_option maxRecDepth 100000 in
set_option maxHeartbeats 4000000 in
theorem abounds_gt (w : World) {nb lb hb m inv le : Nat} {sign : Int} (hinv : Rel inv inv) (hle : Rel le le)
    {ia ic : Nat} (hia : ia < m) (hic : ic < m) {na la nc lc : Nat} {ha hc : Int} (A : Cd w nb lb hb ia na la ha) (C : Cd w nb lb hb ic nc lc hc) (X V B z s1 s2 : Nat) (hX : X = ratX na nc inv) (hV : V = ratV X la lc) (hB : B = ratB X la lc le) (hz : z = zF sign V)
    (h1 : Sh20 (fop .sub z B) 13830554455654793216 sign ha s1) (h2 : Sh20 (fop .add z B) 4607182418800017408 sign ha s2) (hg : nc < na) :
    Calls Yba.prog 6 #[.slice (some ⟨nb, 0, none⟩) m m, .slice (some ⟨lb, 0, none⟩) m m, .slice (some ⟨hb, 0, none⟩) m m, .float .f64 inv, .float .f64 le, .int .i64 sign, .int .i64 (ia : Int), .int .i64 (ic : Int)] w fun e w' => ∃ p q n, e = .returned (.tuple #[.float .f64 p, .float .f64 q]) ∧ Rel p s1 ∧ Rel q s2 ∧ w' = w.drewN n := by
  obtain ⟨an, al, ah, ant, alt⟩ := A
  obtain ⟨cn, cl, ch, cnt, clt⟩ := C
  have ral : Rel la la := Rel.refl alt
  have rcl : Rel lc lc := Rel.refl clt
  have rsg := rel_int sign
  unfold ratV at hV
  unfold ratB at hB
  unfold zF at hz
  have hV := hV.symm
  have hB := hB.symm
  have hz := hz.symm
  have hD : na < 18446744073709551616 := ant
  have hM : nc ≤ na := by omega
  have hgi : (nc : Int) < (na : Int) := by omega
  have e1 := wrap_sub na nc hD hM
  have e2 := wrap_add na nc
  have h3 := mul64_nat (na - nc) ((na + nc) % 18446744073709551616) (by omega) (by omega)
  have e3 : (na - nc) * ((na + nc) % 18446744073709551616) = sqP na nc := rfl
  rw [e3] at h3
  have eS : fop .add (fop .mul (floatOfInt .f64 ((sqP na nc / 18446744073709551616 : Nat) : Int)) 4895412794951729152) (floatOfInt .f64 ((sqP na nc % 18446744073709551616 : Nat) : Int)) = sqF na nc := rfl
  generalize ((sqP na nc / 18446744073709551616 : Nat) : Int) = ph at *
  generalize ((sqP na nc % 18446744073709551616 : Nat) : Int) = pl at *
  have i1 := rel_int ph
  have i2 := rel_int pl
  obtain ⟨ds, hds⟩ : ∃ ds : Int, ds = (((na + nc) % 18446744073709551616 : Nat) : Int) := ⟨_, rfl⟩
  rw [← hds] at e2 h3
  obtain ⟨dm, hdm⟩ : ∃ dm : Int, dm = ((na - nc : Nat) : Int) := ⟨_, rfl⟩
  rw [← hdm] at e1 h3
  clear hdm hds e3
  obtain ⟨X0, hX0⟩ : ∃ X0, fop .mul (sqF na nc) inv = X0 := ⟨_, rfl⟩
  have hX' : fneg X0 = X := by rw [hX, ← hX0]; unfold ratX; rw [if_pos hg]
  clear hX
  go_enter Yba.func6, Yba.ntmps6
  go_wp2_with (first
      | (go_at_call 18; refine (h3 _).mono ?_; rintro e w' ⟨rfl, rfl⟩)
      | (go_at_call 19; refine (abs_any _ (Rel.lt (s := X) (by assumption)) _).mono ?_; rintro e w' ⟨rfl, rfl⟩)
      | (go_at_call_of 20 (Value.float .f64 13830554455654793216); refine (h1 _ (by assumption) _).mono ?_; rintro e w' ⟨r1, n1, rfl, hr1, rfl⟩)
      | (go_at_call_of 20 (Value.float .f64 4607182418800017408); refine (h2 _ (by assumption) _).mono ?_; rintro e w' ⟨r2, n2, rfl, hr2, rfl⟩)
      | (refine wpList_float rfl _ _ _ _ _ rfl rfl rfl rfl (by first | assumption | exact Rel.abs (by assumption) | exact Rel.refl (by decide) | exact rel_int _) (by first | assumption | exact Rel.abs (by assumption) | exact Rel.refl (by decide) | exact rel_int _) ?_; intro r n hr; (try rw [eS] at hr); (try rw [hX0] at hr); (try rw [hz] at hr); (try have hnx := run_neg _ (Rel.lt (s := X0) hr)); (try have hrx : Rel _ (fneg X0) := Rel.neg hr); (try rw [hX'] at hrx); skip))
  refine wp_region_loose KA (by kernel_rfl) (by kernel_rfl) ?_
  repeat (first
    | (refine wpLoose_float rfl _ _ _ _ _ rfl rfl rfl rfl (by first | assumption | exact Rel.abs (by assumption) | exact Rel.refl (by decide) | exact rel_int _) (by first | assumption | exact Rel.abs (by assumption) | exact Rel.refl (by decide) | exact rel_int _) ?_; intro r hr; (try rw [hV] at hr); simp only [Act.put, List.setIfInBounds_toArray, List.set_cons_succ, List.set_cons_zero])
    | (refine wpLoose_nilCheck rfl _ rfl _ rfl ?_; simp only [Act.put, List.setIfInBounds_toArray, List.set_cons_succ, List.set_cons_zero])
    | (refine wpLoose_want rfl rfl (fun K hK => ?_); go_big_quiet_op; refine hK _ ?_; clear hK K))
  refine wpLoose_nil ?_
  intro nq
  go_wp2_with (first
      | (go_at_call 18; refine (h3 _).mono ?_; rintro e w' ⟨rfl, rfl⟩)
      | (go_at_call 19; refine (abs_any _ (Rel.lt (s := X) (by assumption)) _).mono ?_; rintro e w' ⟨rfl, rfl⟩)
      | (go_at_call_of 20 (Value.float .f64 13830554455654793216); refine (h1 _ (by assumption) _).mono ?_; rintro e w' ⟨r1, n1, rfl, hr1, rfl⟩)
      | (go_at_call_of 20 (Value.float .f64 4607182418800017408); refine (h2 _ (by assumption) _).mono ?_; rintro e w' ⟨r2, n2, rfl, hr2, rfl⟩)
      | (refine wpList_float rfl _ _ _ _ _ rfl rfl rfl rfl (by first | assumption | exact Rel.abs (by assumption) | exact Rel.refl (by decide) | exact rel_int _) (by first | assumption | exact Rel.abs (by assumption) | exact Rel.refl (by decide) | exact rel_int _) ?_; intro r n hr; (try rw [eS] at hr); (try rw [hX0] at hr); (try rw [hz] at hr); (try have hnx := run_neg _ (Rel.lt (s := X0) hr)); (try have hrx : Rel _ (fneg X0) := Rel.neg hr); (try rw [hX'] at hrx); skip))
  refine wp_region_loose KA (by kernel_rfl) (by kernel_rfl) ?_
  repeat (first
    | (refine wpLoose_float rfl _ _ _ _ _ rfl rfl rfl rfl (by first | assumption | exact Rel.abs (by assumption) | exact Rel.refl (by decide) | exact rel_int _) (by first | assumption | exact Rel.abs (by assumption) | exact Rel.refl (by decide) | exact rel_int _) ?_; intro r hr; (try rw [hB] at hr); simp only [Act.put, List.setIfInBounds_toArray, List.set_cons_succ, List.set_cons_zero])
    | (refine wpLoose_nilCheck rfl _ rfl _ rfl ?_; simp only [Act.put, List.setIfInBounds_toArray, List.set_cons_succ, List.set_cons_zero])
    | (refine wpLoose_want rfl rfl (fun K hK => ?_); go_big_quiet_op; refine hK _ ?_; clear hK K))
  refine wpLoose_nil ?_
  intro nq
  go_wp2_with (first
      | (go_at_call 18; refine (h3 _).mono ?_; rintro e w' ⟨rfl, rfl⟩)
      | (go_at_call 19; refine (abs_any _ (Rel.lt (s := X) (by assumption)) _).mono ?_; rintro e w' ⟨rfl, rfl⟩)
      | (go_at_call_of 20 (Value.float .f64 13830554455654793216); refine (h1 _ (by assumption) _).mono ?_; rintro e w' ⟨r1, n1, rfl, hr1, rfl⟩)
      | (go_at_call_of 20 (Value.float .f64 4607182418800017408); refine (h2 _ (by assumption) _).mono ?_; rintro e w' ⟨r2, n2, rfl, hr2, rfl⟩)
      | (refine wpList_float rfl _ _ _ _ _ rfl rfl rfl rfl (by first | assumption | exact Rel.abs (by assumption) | exact Rel.refl (by decide) | exact rel_int _) (by first | assumption | exact Rel.abs (by assumption) | exact Rel.refl (by decide) | exact rel_int _) ?_; intro r n hr; (try rw [eS] at hr); (try rw [hX0] at hr); (try rw [hz] at hr); (try have hnx := run_neg _ (Rel.lt (s := X0) hr)); (try have hrx : Rel _ (fneg X0) := Rel.neg hr); (try rw [hX'] at hrx); skip))
  go_ret2
  refine ⟨_, _, ?n1, rfl, by assumption, by assumption, ?h1⟩
  case h1 => first | rfl | (simp only [World.drewN_drewN]; rfl)

set_option maxRecDepth 100000 in
set_option maxHeartbeats 4000000 in
theorem abounds_eq (w : World) {nb lb hb m inv le : Nat} {sign : Int} (hinv : Rel inv inv) (hle : Rel le le)
    {ia ic : Nat} (hia : ia < m) (hic : ic < m) {na la nc lc : Nat} {ha hc : Int} (A : Cd w nb lb hb ia na la ha) (C : Cd w nb lb hb ic nc lc hc) (X V B z s1 s2 : Nat) (hX : X = ratX na nc inv) (hV : V = ratV X la lc) (hB : B = ratB X la lc le) (hz : z = zF sign V)
    (h1 : Sh20 (fop .sub z B) 13830554455654793216 sign ha s1) (h2 : Sh20 (fop .add z B) 4607182418800017408 sign ha s2) (hg : nc = na) :
    Calls Yba.prog 6 #[.slice (some ⟨nb, 0, none⟩) m m, .slice (some ⟨lb, 0, none⟩) m m, .slice (some ⟨hb, 0, none⟩) m m, .float .f64 inv, .float .f64 le, .int .i64 sign, .int .i64 (ia : Int), .int .i64 (ic : Int)] w fun e w' => ∃ p q n, e = .returned (.tuple #[.float .f64 p, .float .f64 q]) ∧ Rel p s1 ∧ Rel q s2 ∧ w' = w.drewN n := by
  obtain ⟨an, al, ah, ant, alt⟩ := A
  obtain ⟨cn, cl, ch, cnt, clt⟩ := C
  have ral : Rel la la := Rel.refl alt
  have rcl : Rel lc lc := Rel.refl clt
  have rsg := rel_int sign
  unfold ratV at hV
  unfold ratB at hB
  unfold zF at hz
  have hV := hV.symm
  have hB := hB.symm
  have hz := hz.symm
  subst hg
  have hD : nc < 18446744073709551616 := cnt
  have hM : nc ≤ nc := by omega
  have e2 := wrap_add nc nc
  have h3 := mul64_nat (nc - nc) ((nc + nc) % 18446744073709551616) (by omega) (by omega)
  have e3 : (nc - nc) * ((nc + nc) % 18446744073709551616) = sqP nc nc := rfl
  rw [e3] at h3
  have eS : fop .add (fop .mul (floatOfInt .f64 ((sqP nc nc / 18446744073709551616 : Nat) : Int)) 4895412794951729152) (floatOfInt .f64 ((sqP nc nc % 18446744073709551616 : Nat) : Int)) = sqF nc nc := rfl
  generalize ((sqP nc nc / 18446744073709551616 : Nat) : Int) = ph at *
  generalize ((sqP nc nc % 18446744073709551616 : Nat) : Int) = pl at *
  have i1 := rel_int ph
  have i2 := rel_int pl
  obtain ⟨ds, hds⟩ : ∃ ds : Int, ds = (((nc + nc) % 18446744073709551616 : Nat) : Int) := ⟨_, rfl⟩
  rw [← hds] at e2 h3
  have h00 : ((nc - nc : Nat) : Int) = 0 := by omega
  rw [h00] at h3
  clear hds e3 h00
  obtain ⟨X0, hX0⟩ : ∃ X0, fop .mul (sqF nc nc) inv = X0 := ⟨_, rfl⟩
  have hX' : X0 = X := by rw [hX, ← hX0]; unfold ratX; rw [if_neg (by omega)]
  subst hX'
  clear hX
  go_enter Yba.func6, Yba.ntmps6
  go_wp2_with (first
      | (go_at_call 18; refine (h3 _).mono ?_; rintro e w' ⟨rfl, rfl⟩)
      | (go_at_call 19; refine (abs_any _ (Rel.lt (s := X0) (by assumption)) _).mono ?_; rintro e w' ⟨rfl, rfl⟩)
      | (go_at_call_of 20 (Value.float .f64 13830554455654793216); refine (h1 _ (by assumption) _).mono ?_; rintro e w' ⟨r1, n1, rfl, hr1, rfl⟩)
      | (go_at_call_of 20 (Value.float .f64 4607182418800017408); refine (h2 _ (by assumption) _).mono ?_; rintro e w' ⟨r2, n2, rfl, hr2, rfl⟩)
      | (refine wpList_float rfl _ _ _ _ _ rfl rfl rfl rfl (by first | assumption | exact Rel.abs (by assumption) | exact Rel.refl (by decide) | exact rel_int _) (by first | assumption | exact Rel.abs (by assumption) | exact Rel.refl (by decide) | exact rel_int _) ?_; intro r n hr; (try rw [eS] at hr); (try rw [hX0] at hr); (try rw [hz] at hr); skip))
  refine wp_region_loose KA (by kernel_rfl) (by kernel_rfl) ?_
  repeat (first
    | (refine wpLoose_float rfl _ _ _ _ _ rfl rfl rfl rfl (by first | assumption | exact Rel.abs (by assumption) | exact Rel.refl (by decide) | exact rel_int _) (by first | assumption | exact Rel.abs (by assumption) | exact Rel.refl (by decide) | exact rel_int _) ?_; intro r hr; (try rw [hV] at hr); simp only [Act.put, List.setIfInBounds_toArray, List.set_cons_succ, List.set_cons_zero])
    | (refine wpLoose_nilCheck rfl _ rfl _ rfl ?_; simp only [Act.put, List.setIfInBounds_toArray, List.set_cons_succ, List.set_cons_zero])
    | (refine wpLoose_want rfl rfl (fun K hK => ?_); go_big_quiet_op; refine hK _ ?_; clear hK K))
  refine wpLoose_nil ?_
  intro nq
  go_wp2_with (first
      | (go_at_call 18; refine (h3 _).mono ?_; rintro e w' ⟨rfl, rfl⟩)
      | (go_at_call 19; refine (abs_any _ (Rel.lt (s := X0) (by assumption)) _).mono ?_; rintro e w' ⟨rfl, rfl⟩)
      | (go_at_call_of 20 (Value.float .f64 13830554455654793216); refine (h1 _ (by assumption) _).mono ?_; rintro e w' ⟨r1, n1, rfl, hr1, rfl⟩)
      | (go_at_call_of 20 (Value.float .f64 4607182418800017408); refine (h2 _ (by assumption) _).mono ?_; rintro e w' ⟨r2, n2, rfl, hr2, rfl⟩)
      | (refine wpList_float rfl _ _ _ _ _ rfl rfl rfl rfl (by first | assumption | exact Rel.abs (by assumption) | exact Rel.refl (by decide) | exact rel_int _) (by first | assumption | exact Rel.abs (by assumption) | exact Rel.refl (by decide) | exact rel_int _) ?_; intro r n hr; (try rw [eS] at hr); (try rw [hX0] at hr); (try rw [hz] at hr); skip))
  refine wp_region_loose KA (by kernel_rfl) (by kernel_rfl) ?_
  repeat (first
    | (refine wpLoose_float rfl _ _ _ _ _ rfl rfl rfl rfl (by first | assumption | exact Rel.abs (by assumption) | exact Rel.refl (by decide) | exact rel_int _) (by first | assumption | exact Rel.abs (by assumption) | exact Rel.refl (by decide) | exact rel_int _) ?_; intro r hr; (try rw [hB] at hr); simp only [Act.put, List.setIfInBounds_toArray, List.set_cons_succ, List.set_cons_zero])
    | (refine wpLoose_nilCheck rfl _ rfl _ rfl ?_; simp only [Act.put, List.setIfInBounds_toArray, List.set_cons_succ, List.set_cons_zero])
    | (refine wpLoose_want rfl rfl (fun K hK => ?_); go_big_quiet_op; refine hK _ ?_; clear hK K))
  refine wpLoose_nil ?_
  intro nq
  go_wp2_with (first
      | (go_at_call 18; refine (h3 _).mono ?_; rintro e w' ⟨rfl, rfl⟩)
      | (go_at_call 19; refine (abs_any _ (Rel.lt (s := X0) (by assumption)) _).mono ?_; rintro e w' ⟨rfl, rfl⟩)
      | (go_at_call_of 20 (Value.float .f64 13830554455654793216); refine (h1 _ (by assumption) _).mono ?_; rintro e w' ⟨r1, n1, rfl, hr1, rfl⟩)
      | (go_at_call_of 20 (Value.float .f64 4607182418800017408); refine (h2 _ (by assumption) _).mono ?_; rintro e w' ⟨r2, n2, rfl, hr2, rfl⟩)
      | (refine wpList_float rfl _ _ _ _ _ rfl rfl rfl rfl (by first | assumption | exact Rel.abs (by assumption) | exact Rel.refl (by decide) | exact rel_int _) (by first | assumption | exact Rel.abs (by assumption) | exact Rel.refl (by decide) | exact rel_int _) ?_; intro r n hr; (try rw [eS] at hr); (try rw [hX0] at hr); (try rw [hz] at hr); skip))
  go_ret2
  refine ⟨_, _, ?n1, rfl, by assumption, by assumption, ?h1⟩
  case h1 => first | rfl | (simp only [World.drewN_drewN]; rfl)

set_option maxRecDepth 100000 in
set_option maxHeartbeats 4000000 in
theorem abounds_lt (w : World) {nb lb hb m inv le : Nat} {sign : Int} (hinv : Rel inv inv) (hle : Rel le le)
    {ia ic : Nat} (hia : ia < m) (hic : ic < m) {na la nc lc : Nat} {ha hc : Int} (A : Cd w nb lb hb ia na la ha) (C : Cd w nb lb hb ic nc lc hc) (X V B z s1 s2 : Nat) (hX : X = ratX na nc inv) (hV : V = ratV X la lc) (hB : B = ratB X la lc le) (hz : z = zF sign V)
    (h1 : Sh20 (fop .sub z B) 13830554455654793216 sign ha s1) (h2 : Sh20 (fop .add z B) 4607182418800017408 sign ha s2) (hg : na < nc) :
    Calls Yba.prog 6 #[.slice (some ⟨nb, 0, none⟩) m m, .slice (some ⟨lb, 0, none⟩) m m, .slice (some ⟨hb, 0, none⟩) m m, .float .f64 inv, .float .f64 le, .int .i64 sign, .int .i64 (ia : Int), .int .i64 (ic : Int)] w fun e w' => ∃ p q n, e = .returned (.tuple #[.float .f64 p, .float .f64 q]) ∧ Rel p s1 ∧ Rel q s2 ∧ w' = w.drewN n := by
  obtain ⟨an, al, ah, ant, alt⟩ := A
  obtain ⟨cn, cl, ch, cnt, clt⟩ := C
  have ral : Rel la la := Rel.refl alt
  have rcl : Rel lc lc := Rel.refl clt
  have rsg := rel_int sign
  unfold ratV at hV
  unfold ratB at hB
  unfold zF at hz
  have hV := hV.symm
  have hB := hB.symm
  have hz := hz.symm
  have hD : nc < 18446744073709551616 := cnt
  have hM : na ≤ nc := by omega
  have hgi : (na : Int) < (nc : Int) := by omega
  have e1 := wrap_sub nc na hD hM
  have e2 := wrap_add nc na
  have h3 := mul64_nat (nc - na) ((nc + na) % 18446744073709551616) (by omega) (by omega)
  have e3 : (nc - na) * ((nc + na) % 18446744073709551616) = sqP nc na := rfl
  rw [e3] at h3
  have eS : fop .add (fop .mul (floatOfInt .f64 ((sqP nc na / 18446744073709551616 : Nat) : Int)) 4895412794951729152) (floatOfInt .f64 ((sqP nc na % 18446744073709551616 : Nat) : Int)) = sqF nc na := rfl
  generalize ((sqP nc na / 18446744073709551616 : Nat) : Int) = ph at *
  generalize ((sqP nc na % 18446744073709551616 : Nat) : Int) = pl at *
  have i1 := rel_int ph
  have i2 := rel_int pl
  obtain ⟨ds, hds⟩ : ∃ ds : Int, ds = (((nc + na) % 18446744073709551616 : Nat) : Int) := ⟨_, rfl⟩
  rw [← hds] at e2 h3
  obtain ⟨dm, hdm⟩ : ∃ dm : Int, dm = ((nc - na : Nat) : Int) := ⟨_, rfl⟩
  rw [← hdm] at e1 h3
  clear hdm hds e3
  obtain ⟨X0, hX0⟩ : ∃ X0, fop .mul (sqF nc na) inv = X0 := ⟨_, rfl⟩
  have hX' : X0 = X := by rw [hX, ← hX0]; unfold ratX; rw [if_neg (by omega)]
  subst hX'
  clear hX
  go_enter Yba.func6, Yba.ntmps6
  go_wp2_with (first
      | (go_at_call 18; refine (h3 _).mono ?_; rintro e w' ⟨rfl, rfl⟩)
      | (go_at_call 19; refine (abs_any _ (Rel.lt (s := X0) (by assumption)) _).mono ?_; rintro e w' ⟨rfl, rfl⟩)
      | (go_at_call_of 20 (Value.float .f64 13830554455654793216); refine (h1 _ (by assumption) _).mono ?_; rintro e w' ⟨r1, n1, rfl, hr1, rfl⟩)
      | (go_at_call_of 20 (Value.float .f64 4607182418800017408); refine (h2 _ (by assumption) _).mono ?_; rintro e w' ⟨r2, n2, rfl, hr2, rfl⟩)
      | (refine wpList_float rfl _ _ _ _ _ rfl rfl rfl rfl (by first | assumption | exact Rel.abs (by assumption) | exact Rel.refl (by decide) | exact rel_int _) (by first | assumption | exact Rel.abs (by assumption) | exact Rel.refl (by decide) | exact rel_int _) ?_; intro r n hr; (try rw [eS] at hr); (try rw [hX0] at hr); (try rw [hz] at hr); skip))
  refine wp_region_loose KA (by kernel_rfl) (by kernel_rfl) ?_
  repeat (first
    | (refine wpLoose_float rfl _ _ _ _ _ rfl rfl rfl rfl (by first | assumption | exact Rel.abs (by assumption) | exact Rel.refl (by decide) | exact rel_int _) (by first | assumption | exact Rel.abs (by assumption) | exact Rel.refl (by decide) | exact rel_int _) ?_; intro r hr; (try rw [hV] at hr); simp only [Act.put, List.setIfInBounds_toArray, List.set_cons_succ, List.set_cons_zero])
    | (refine wpLoose_nilCheck rfl _ rfl _ rfl ?_; simp only [Act.put, List.setIfInBounds_toArray, List.set_cons_succ, List.set_cons_zero])
    | (refine wpLoose_want rfl rfl (fun K hK => ?_); go_big_quiet_op; refine hK _ ?_; clear hK K))
  refine wpLoose_nil ?_
  intro nq
  go_wp2_with (first
      | (go_at_call 18; refine (h3 _).mono ?_; rintro e w' ⟨rfl, rfl⟩)
      | (go_at_call 19; refine (abs_any _ (Rel.lt (s := X0) (by assumption)) _).mono ?_; rintro e w' ⟨rfl, rfl⟩)
      | (go_at_call_of 20 (Value.float .f64 13830554455654793216); refine (h1 _ (by assumption) _).mono ?_; rintro e w' ⟨r1, n1, rfl, hr1, rfl⟩)
      | (go_at_call_of 20 (Value.float .f64 4607182418800017408); refine (h2 _ (by assumption) _).mono ?_; rintro e w' ⟨r2, n2, rfl, hr2, rfl⟩)
      | (refine wpList_float rfl _ _ _ _ _ rfl rfl rfl rfl (by first | assumption | exact Rel.abs (by assumption) | exact Rel.refl (by decide) | exact rel_int _) (by first | assumption | exact Rel.abs (by assumption) | exact Rel.refl (by decide) | exact rel_int _) ?_; intro r n hr; (try rw [eS] at hr); (try rw [hX0] at hr); (try rw [hz] at hr); skip))
  refine wp_region_loose KA (by kernel_rfl) (by kernel_rfl) ?_
  repeat (first
    | (refine wpLoose_float rfl _ _ _ _ _ rfl rfl rfl rfl (by first | assumption | exact Rel.abs (by assumption) | exact Rel.refl (by decide) | exact rel_int _) (by first | assumption | exact Rel.abs (by assumption) | exact Rel.refl (by decide) | exact rel_int _) ?_; intro r hr; (try rw [hB] at hr); simp only [Act.put, List.setIfInBounds_toArray, List.set_cons_succ, List.set_cons_zero])
    | (refine wpLoose_nilCheck rfl _ rfl _ rfl ?_; simp only [Act.put, List.setIfInBounds_toArray, List.set_cons_succ, List.set_cons_zero])
    | (refine wpLoose_want rfl rfl (fun K hK => ?_); go_big_quiet_op; refine hK _ ?_; clear hK K))
  refine wpLoose_nil ?_
  intro nq
  go_wp2_with (first
      | (go_at_call 18; refine (h3 _).mono ?_; rintro e w' ⟨rfl, rfl⟩)
      | (go_at_call 19; refine (abs_any _ (Rel.lt (s := X0) (by assumption)) _).mono ?_; rintro e w' ⟨rfl, rfl⟩)
      | (go_at_call_of 20 (Value.float .f64 13830554455654793216); refine (h1 _ (by assumption) _).mono ?_; rintro e w' ⟨r1, n1, rfl, hr1, rfl⟩)
      | (go_at_call_of 20 (Value.float .f64 4607182418800017408); refine (h2 _ (by assumption) _).mono ?_; rintro e w' ⟨r2, n2, rfl, hr2, rfl⟩)
      | (refine wpList_float rfl _ _ _ _ _ rfl rfl rfl rfl (by first | assumption | exact Rel.abs (by assumption) | exact Rel.refl (by decide) | exact rel_int _) (by first | assumption | exact Rel.abs (by assumption) | exact Rel.refl (by decide) | exact rel_int _) ?_; intro r n hr; (try rw [eS] at hr); (try rw [hX0] at hr); (try rw [hz] at hr); skip))
  go_ret2
  refine ⟨_, _, ?n1, rfl, by assumption, by assumption, ?h1⟩
  case h1 => first | rfl | (simp only [World.drewN_drewN]; rfl)

theorem abounds (w : World) {nb lb hb m inv le : Nat} {sign : Int} (hinv : Rel inv inv) (hle : Rel le le)
    {ia ic : Nat} (hia : ia < m) (hic : ic < m) {na la nc lc : Nat} {ha hc : Int} (A : Cd w nb lb hb ia na la ha) (C : Cd w nb lb hb ic nc lc hc) (X V B z s1 s2 : Nat) (hX : X = ratX na nc inv) (hV : V = ratV X la lc) (hB : B = ratB X la lc le) (hz : z = zF sign V)
    (h1 : Sh20 (fop .sub z B) 13830554455654793216 sign ha s1) (h2 : Sh20 (fop .add z B) 4607182418800017408 sign ha s2) :
    Calls Yba.prog 6 #[.slice (some ⟨nb, 0, none⟩) m m, .slice (some ⟨lb, 0, none⟩) m m, .slice (some ⟨hb, 0, none⟩) m m, .float .f64 inv, .float .f64 le, .int .i64 sign, .int .i64 (ia : Int), .int .i64 (ic : Int)] w fun e w' => ∃ p q n, e = .returned (.tuple #[.float .f64 p, .float .f64 q]) ∧ Rel p s1 ∧ Rel q s2 ∧ w' = w.drewN n := by
  rcases Nat.lt_trichotomy nc na with hg | hg | hg
  · exact abounds_gt w hinv hle hia hic A C X V B z s1 s2 hX hV hB hz h1 h2 hg
  · exact abounds_eq w hinv hle hia hic A C X V B z s1 s2 hX hV hB hz h1 h2 hg
  · exact abounds_lt w hinv hle hia hic A C X V B z s1 s2 hX hV hB hz h1 h2 hg
end Go.Proofs.Ybulkdpsg
