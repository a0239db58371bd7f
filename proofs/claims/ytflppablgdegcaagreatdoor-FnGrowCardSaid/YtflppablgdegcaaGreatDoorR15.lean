/- Joined: Dc. -/
import Derived.Test.YtflppablgdegcaaGreatDoorR09
import Derived.Test.YtflppablgdegcaaGreatDoorR14
set_option maxRecDepth 100000
set_option maxHeartbeats 8000000
namespace Go.Proofs.YtflppablgdegcaaGreatDoor
open Go.RowKit
noncomputable def dlBody : Code := Tryz.f47.body.getD .skip
abbrev dl0 (gp gs : Nat) (L : ByteArray) (st : Bool) : List (Nat × Value) := (2, .string L) :: (0, pt gp 0) :: (1, pt gs 0) :: (3, .bool st) :: (8, .nilIface) :: (9, .nilIface) :: []
noncomputable def cd3 : Code := (cA (cA (cB (cB (cB dlBody)))))
noncomputable def cd18 : Code := (cB (cB cd3))
noncomputable def cd59 : Code := (cB (cB cd18))
noncomputable def cd61 : Code := (cB (cB cd59))
noncomputable def cd64 : Code := (cB (cB cd61))
noncomputable def cd69 : Code := (cB (cB cd64))
noncomputable def cd74 : Code := (cB (cB cd69))
noncomputable def cd79 : Code := (cB (cB cd74))
noncomputable def cd91 : Code := (cB (cB cd79))
noncomputable def cd96 : Code := (cB (cB cd91))
noncomputable def cd109 : Code := (cB (cB cd96))
noncomputable def cd127 : Code := (cB (cB cd109))
noncomputable def cd141 : Code := (cB (cB cd127))
noncomputable def cd145 : Code := (cB (cB cd141))
noncomputable def cd157 : Code := (cB (cB cd145))
noncomputable def cd172 : Code := (cB (cB cd157))
noncomputable def cd177 : Code := (cB (cB cd172))
noncomputable def cd180 : Code := (cB (cB cd177))
noncomputable def cd195 : Code := (cB (cB cd180))
noncomputable def cd203 : Code := (cB (cB cd195))
noncomputable def cd208 : Code := (cB (cB cd203))
noncomputable def cd211 : Code := (cB (cB cd208))
noncomputable def cdTail : Code := (cB (cB (cB (cB dlBody))))
noncomputable def ar3 : Code := cA (cB cd3)
noncomputable def ar18 : Code := cA (cB cd18)
noncomputable def ar59 : Code := cA (cB cd59)
noncomputable def ar61 : Code := cA (cB cd61)
noncomputable def ar64 : Code := cA (cB cd64)
noncomputable def ar69 : Code := cA (cB cd69)
noncomputable def ar74 : Code := cA (cB cd74)
noncomputable def ar79 : Code := cA (cB cd79)
noncomputable def ar91 : Code := cA (cB cd91)
noncomputable def ar96 : Code := cA (cB cd96)
noncomputable def ar109 : Code := cA (cB cd109)
noncomputable def ar127 : Code := cA (cB cd127)
noncomputable def ar141 : Code := cA (cB cd141)
noncomputable def ar145 : Code := cA (cB cd145)
noncomputable def ar208 : Code := cA (cB cd208)
noncomputable def ar211 : Code := cA (cB cd211)
theorem ch3_ {gp gs : Nat} {L : ByteArray} {st : Bool} {m : List Bk} {M : Nat → Prop} {w0 w : World} {a : Act} {Q : Exit → Act → World → Prop} (Z : Sv 1040 (dl0 gp gs L st) m M w0 a w) {b : Bool} (hf : w.cell? ⟨gs, 3, none⟩ = some (.bool b)) (hb : b = false) (hq : Lib.hasPrefix L.data.toList (⟨#[35, 69, 88, 84, 73, 78, 70, 58]⟩ : ByteArray).data.toList = false) (hK : ∀ a', Sv 1040 (dl0 gp gs L st) m M w0 a' w → cd18.wp Tryz.prog Q a' w) : (cd3).wp Tryz.prog Q a w := by
 subst hb
 refine wr (sv_n 3 Z rfl fun a Z => sv_r (v := .bool false) Z (ex_ld (Z.g 35 rfl) lt_bool hf) fun a Z => sv_r (v := .bool true) Z (ex_not (Z.g 36 rfl)) fun a Z => sv_n 2 Z rfl fun a Z => sv_gcallq (v := .bool false) Z rfl rfl (Z.g 38 rfl) rfl (by decide) (ex_call2 cf_strings_HasPrefix (Z.g 39 rfl) rfl) (hasP hq _) fun a Z => sv_n 2 Z rfl fun a Z => Z.nx [32, 2, 0, 1, 3, 8, 9] rfl fun Z => sh (cond_f (Z.g 32 rfl) ?_))
 exact hK _ (Z.pick rfl)
theorem ch3t {gp gs : Nat} {L : ByteArray} {st : Bool} {m : List Bk} {M : Nat → Prop} {w0 w : World} {a : Act} {Q : Exit → Act → World → Prop} (Z : Sv 1040 (dl0 gp gs L st) m M w0 a w) {b : Bool} (hf : w.cell? ⟨gs, 3, none⟩ = some (.bool b)) (hb : b = true) (hK : ∀ a', Sv 1040 (dl0 gp gs L st) m M w0 a' w → cd18.wp Tryz.prog Q a' w) : (cd3).wp Tryz.prog Q a w := by
 subst hb
 refine wr (sv_n 3 Z rfl fun a Z => sv_r (v := .bool true) Z (ex_ld (Z.g 35 rfl) lt_bool hf) fun a Z => sv_r (v := .bool false) Z (ex_not (Z.g 36 rfl)) fun a Z => sv_n 5 Z rfl fun a Z => Z.nx [32, 2, 0, 1, 3, 8, 9] rfl fun Z => sh (cond_f (Z.g 32 rfl) ?_))
 exact hK _ (Z.pick rfl)
theorem ch3 {gp gs : Nat} {L : ByteArray} {st : Bool} {m : List Bk} {M : Nat → Prop} {w0 w : World} {a : Act} {Q : Exit → Act → World → Prop} (Z : Sv 1040 (dl0 gp gs L st) m M w0 a w) {b : Bool} (hf : w.cell? ⟨gs, 3, none⟩ = some (.bool b)) (hq : Lib.hasPrefix L.data.toList (⟨#[35, 69, 88, 84, 73, 78, 70, 58]⟩ : ByteArray).data.toList = false) (hK : ∀ a', Sv 1040 (dl0 gp gs L st) m M w0 a' w → cd18.wp Tryz.prog Q a' w) : (cd3).wp Tryz.prog Q a w := by
 cases b with
 | true => exact ch3t Z hf rfl hK
 | false => exact ch3_ Z hf rfl hq hK
theorem hit3 {gp gs : Nat} {L : ByteArray} {st : Bool} {m : List Bk} {M : Nat → Prop} {w0 w : World} {a : Act} {Q : Exit → Act → World → Prop} (Z : Sv 1040 (dl0 gp gs L st) m M w0 a w) {b : Bool} (hf : w.cell? ⟨gs, 3, none⟩ = some (.bool b)) (hb : b = false) (hq : Lib.hasPrefix L.data.toList (⟨#[35, 69, 88, 84, 73, 78, 70, 58]⟩ : ByteArray).data.toList = true) (hK : ∀ a', Sv 1040 (dl0 gp gs L st) m M w0 a' w → ar3.wp Tryz.prog Q a' w) : (cd3).wp Tryz.prog Q a w := by
 subst hb
 refine wr (sv_n 3 Z rfl fun a Z => sv_r (v := .bool false) Z (ex_ld (Z.g 35 rfl) lt_bool hf) fun a Z => sv_r (v := .bool true) Z (ex_not (Z.g 36 rfl)) fun a Z => sv_n 2 Z rfl fun a Z => sv_gcallq (v := .bool true) Z rfl rfl (Z.g 38 rfl) rfl (by decide) (ex_call2 cf_strings_HasPrefix (Z.g 39 rfl) rfl) (hasP hq _) fun a Z => sv_n 2 Z rfl fun a Z => Z.nx [32, 2, 0, 1, 3, 8, 9] rfl fun Z => sh (cond_t (Z.g 32 rfl) ?_))
 exact hK _ (Z.pick rfl)
theorem ch18 {gp gs : Nat} {L : ByteArray} {st : Bool} {m : List Bk} {M : Nat → Prop} {w0 w : World} {a : Act} {Q : Exit → Act → World → Prop} (Z : Sv 1040 (dl0 gp gs L st) m M w0 a w) (hq : Lib.hasPrefix L.data.toList (⟨#[35]⟩ : ByteArray).data.toList = true) (hK : ∀ a', Sv 1040 (dl0 gp gs L st) m M w0 a' w → cd59.wp Tryz.prog Q a' w) : (cd18).wp Tryz.prog Q a w := by
 refine wr (sv_n 1 Z rfl fun a Z => sv_callq (v := .bool true) Z rfl rfl (by decide) (ex_call2 cf_strings_HasPrefix (Z.g 88 rfl) rfl) (hasP hq _) fun a Z => sv_r (v := .bool false) Z (ex_not (Z.g 89 rfl)) fun a Z => sv_n 1 Z rfl fun a Z => Z.nx [87, 2, 0, 1, 3, 8, 9] rfl fun Z => sh (cond_f (Z.g 87 rfl) ?_))
 exact hK _ (Z.pick rfl)
theorem hit18 {gp gs : Nat} {L : ByteArray} {st : Bool} {m : List Bk} {M : Nat → Prop} {w0 w : World} {a : Act} {Q : Exit → Act → World → Prop} (Z : Sv 1040 (dl0 gp gs L st) m M w0 a w) (hq : Lib.hasPrefix L.data.toList (⟨#[35]⟩ : ByteArray).data.toList = false) (hK : ∀ a', Sv 1040 (dl0 gp gs L st) m M w0 a' w → ar18.wp Tryz.prog Q a' w) : (cd18).wp Tryz.prog Q a w := by
 refine wr (sv_n 1 Z rfl fun a Z => sv_callq (v := .bool false) Z rfl rfl (by decide) (ex_call2 cf_strings_HasPrefix (Z.g 88 rfl) rfl) (hasP hq _) fun a Z => sv_r (v := .bool true) Z (ex_not (Z.g 89 rfl)) fun a Z => sv_n 1 Z rfl fun a Z => Z.nx [87, 2, 0, 1, 3, 8, 9] rfl fun Z => sh (cond_t (Z.g 87 rfl) ?_))
 exact hK _ (Z.pick rfl)
theorem ch59 {gp gs : Nat} {L : ByteArray} {st : Bool} {m : List Bk} {M : Nat → Prop} {w0 w : World} {a : Act} {Q : Exit → Act → World → Prop} (Z : Sv 1040 (dl0 gp gs L st) m M w0 a w) (hq : decide (L.data.toList = (⟨#[35, 69, 88, 84, 77, 51, 85]⟩ : ByteArray).data.toList) = false) (hK : ∀ a', Sv 1040 (dl0 gp gs L st) m M w0 a' w → cd61.wp Tryz.prog Q a' w) : (cd59).wp Tryz.prog Q a w := by
 refine wr (sv_n 1 Z rfl fun a Z => ?_)
 refine sv_r (v := .bool false) Z (ex_eqsk (Z.g 352 rfl) rfl (by exact hq)) fun a Z => sv_n 1 Z rfl fun a Z => Z.nx [351, 2, 0, 1, 3, 8, 9] rfl fun Z => sh (cond_f (Z.g 351 rfl) ?_)
 exact hK _ (Z.pick rfl)
theorem hit59 {gp gs : Nat} {L : ByteArray} {st : Bool} {m : List Bk} {M : Nat → Prop} {w0 w : World} {a : Act} {Q : Exit → Act → World → Prop} (Z : Sv 1040 (dl0 gp gs L st) m M w0 a w) (hq : decide (L.data.toList = (⟨#[35, 69, 88, 84, 77, 51, 85]⟩ : ByteArray).data.toList) = true) (hK : ∀ a', Sv 1040 (dl0 gp gs L st) m M w0 a' w → ar59.wp Tryz.prog Q a' w) : (cd59).wp Tryz.prog Q a w := by
 refine wr (sv_n 1 Z rfl fun a Z => ?_)
 refine sv_r (v := .bool true) Z (ex_eqsk (Z.g 352 rfl) rfl (by exact hq)) fun a Z => sv_n 1 Z rfl fun a Z => Z.nx [351, 2, 0, 1, 3, 8, 9] rfl fun Z => sh (cond_t (Z.g 351 rfl) ?_)
 exact hK _ (Z.pick rfl)
theorem ch61 {gp gs : Nat} {L : ByteArray} {st : Bool} {m : List Bk} {M : Nat → Prop} {w0 w : World} {a : Act} {Q : Exit → Act → World → Prop} (Z : Sv 1040 (dl0 gp gs L st) m M w0 a w) (hq : decide (L.data.toList = (⟨#[35, 69, 88, 84, 45, 88, 45, 69, 78, 68, 76, 73, 83, 84]⟩ : ByteArray).data.toList) = false) (hK : ∀ a', Sv 1040 (dl0 gp gs L st) m M w0 a' w → cd64.wp Tryz.prog Q a' w) : (cd61).wp Tryz.prog Q a w := by
 refine wr (sv_n 1 Z rfl fun a Z => ?_)
 refine sv_r (v := .bool false) Z (ex_eqsk (Z.g 358 rfl) rfl (by exact hq)) fun a Z => sv_n 1 Z rfl fun a Z => Z.nx [357, 2, 0, 1, 3, 8, 9] rfl fun Z => sh (cond_f (Z.g 357 rfl) ?_)
 exact hK _ (Z.pick rfl)
theorem hit61 {gp gs : Nat} {L : ByteArray} {st : Bool} {m : List Bk} {M : Nat → Prop} {w0 w : World} {a : Act} {Q : Exit → Act → World → Prop} (Z : Sv 1040 (dl0 gp gs L st) m M w0 a w) (hq : decide (L.data.toList = (⟨#[35, 69, 88, 84, 45, 88, 45, 69, 78, 68, 76, 73, 83, 84]⟩ : ByteArray).data.toList) = true) (hK : ∀ a', Sv 1040 (dl0 gp gs L st) m M w0 a' w → ar61.wp Tryz.prog Q a' w) : (cd61).wp Tryz.prog Q a w := by
 refine wr (sv_n 1 Z rfl fun a Z => ?_)
 refine sv_r (v := .bool true) Z (ex_eqsk (Z.g 358 rfl) rfl (by exact hq)) fun a Z => sv_n 1 Z rfl fun a Z => Z.nx [357, 2, 0, 1, 3, 8, 9] rfl fun Z => sh (cond_t (Z.g 357 rfl) ?_)
 exact hK _ (Z.pick rfl)
theorem ch64 {gp gs : Nat} {L : ByteArray} {st : Bool} {m : List Bk} {M : Nat → Prop} {w0 w : World} {a : Act} {Q : Exit → Act → World → Prop} (Z : Sv 1040 (dl0 gp gs L st) m M w0 a w) (hq : Lib.hasPrefix L.data.toList (⟨#[35, 69, 88, 84, 45, 88, 45, 86, 69, 82, 83, 73, 79, 78, 58]⟩ : ByteArray).data.toList = false) (hK : ∀ a', Sv 1040 (dl0 gp gs L st) m M w0 a' w → cd69.wp Tryz.prog Q a' w) : (cd64).wp Tryz.prog Q a w := by
 refine wr (sv_n 1 Z rfl fun a Z => sv_callq (v := .bool false) Z rfl rfl (by decide) (ex_call2 cf_strings_HasPrefix (Z.g 367 rfl) rfl) (hasP hq _) fun a Z => sv_n 1 Z rfl fun a Z => Z.nx [366, 2, 0, 1, 3, 8, 9] rfl fun Z => sh (cond_f (Z.g 366 rfl) ?_))
 exact hK _ (Z.pick rfl)
theorem hit64 {gp gs : Nat} {L : ByteArray} {st : Bool} {m : List Bk} {M : Nat → Prop} {w0 w : World} {a : Act} {Q : Exit → Act → World → Prop} (Z : Sv 1040 (dl0 gp gs L st) m M w0 a w) (hq : Lib.hasPrefix L.data.toList (⟨#[35, 69, 88, 84, 45, 88, 45, 86, 69, 82, 83, 73, 79, 78, 58]⟩ : ByteArray).data.toList = true) (hK : ∀ a', Sv 1040 (dl0 gp gs L st) m M w0 a' w → ar64.wp Tryz.prog Q a' w) : (cd64).wp Tryz.prog Q a w := by
 refine wr (sv_n 1 Z rfl fun a Z => sv_callq (v := .bool true) Z rfl rfl (by decide) (ex_call2 cf_strings_HasPrefix (Z.g 367 rfl) rfl) (hasP hq _) fun a Z => sv_n 1 Z rfl fun a Z => Z.nx [366, 2, 0, 1, 3, 8, 9] rfl fun Z => sh (cond_t (Z.g 366 rfl) ?_))
 exact hK _ (Z.pick rfl)
theorem ch69 {gp gs : Nat} {L : ByteArray} {st : Bool} {m : List Bk} {M : Nat → Prop} {w0 w : World} {a : Act} {Q : Exit → Act → World → Prop} (Z : Sv 1040 (dl0 gp gs L st) m M w0 a w) (hq : Lib.hasPrefix L.data.toList (⟨#[35, 69, 88, 84, 45, 88, 45, 84, 65, 82, 71, 69, 84, 68, 85, 82, 65, 84, 73, 79, 78, 58]⟩ : ByteArray).data.toList = false) (hK : ∀ a', Sv 1040 (dl0 gp gs L st) m M w0 a' w → cd74.wp Tryz.prog Q a' w) : (cd69).wp Tryz.prog Q a w := by
 refine wr (sv_n 1 Z rfl fun a Z => sv_callq (v := .bool false) Z rfl rfl (by decide) (ex_call2 cf_strings_HasPrefix (Z.g 392 rfl) rfl) (hasP hq _) fun a Z => sv_n 1 Z rfl fun a Z => Z.nx [391, 2, 0, 1, 3, 8, 9] rfl fun Z => sh (cond_f (Z.g 391 rfl) ?_))
 exact hK _ (Z.pick rfl)
theorem hit69 {gp gs : Nat} {L : ByteArray} {st : Bool} {m : List Bk} {M : Nat → Prop} {w0 w : World} {a : Act} {Q : Exit → Act → World → Prop} (Z : Sv 1040 (dl0 gp gs L st) m M w0 a w) (hq : Lib.hasPrefix L.data.toList (⟨#[35, 69, 88, 84, 45, 88, 45, 84, 65, 82, 71, 69, 84, 68, 85, 82, 65, 84, 73, 79, 78, 58]⟩ : ByteArray).data.toList = true) (hK : ∀ a', Sv 1040 (dl0 gp gs L st) m M w0 a' w → ar69.wp Tryz.prog Q a' w) : (cd69).wp Tryz.prog Q a w := by
 refine wr (sv_n 1 Z rfl fun a Z => sv_callq (v := .bool true) Z rfl rfl (by decide) (ex_call2 cf_strings_HasPrefix (Z.g 392 rfl) rfl) (hasP hq _) fun a Z => sv_n 1 Z rfl fun a Z => Z.nx [391, 2, 0, 1, 3, 8, 9] rfl fun Z => sh (cond_t (Z.g 391 rfl) ?_))
 exact hK _ (Z.pick rfl)
theorem ch74 {gp gs : Nat} {L : ByteArray} {st : Bool} {m : List Bk} {M : Nat → Prop} {w0 w : World} {a : Act} {Q : Exit → Act → World → Prop} (Z : Sv 1040 (dl0 gp gs L st) m M w0 a w) (hq : Lib.hasPrefix L.data.toList (⟨#[35, 69, 88, 84, 45, 88, 45, 77, 69, 68, 73, 65, 45, 83, 69, 81, 85, 69, 78, 67, 69, 58]⟩ : ByteArray).data.toList = false) (hK : ∀ a', Sv 1040 (dl0 gp gs L st) m M w0 a' w → cd79.wp Tryz.prog Q a' w) : (cd74).wp Tryz.prog Q a w := by
 refine wr (sv_n 1 Z rfl fun a Z => sv_callq (v := .bool false) Z rfl rfl (by decide) (ex_call2 cf_strings_HasPrefix (Z.g 417 rfl) rfl) (hasP hq _) fun a Z => sv_n 1 Z rfl fun a Z => Z.nx [416, 2, 0, 1, 3, 8, 9] rfl fun Z => sh (cond_f (Z.g 416 rfl) ?_))
 exact hK _ (Z.pick rfl)
theorem hit74 {gp gs : Nat} {L : ByteArray} {st : Bool} {m : List Bk} {M : Nat → Prop} {w0 w : World} {a : Act} {Q : Exit → Act → World → Prop} (Z : Sv 1040 (dl0 gp gs L st) m M w0 a w) (hq : Lib.hasPrefix L.data.toList (⟨#[35, 69, 88, 84, 45, 88, 45, 77, 69, 68, 73, 65, 45, 83, 69, 81, 85, 69, 78, 67, 69, 58]⟩ : ByteArray).data.toList = true) (hK : ∀ a', Sv 1040 (dl0 gp gs L st) m M w0 a' w → ar74.wp Tryz.prog Q a' w) : (cd74).wp Tryz.prog Q a w := by
 refine wr (sv_n 1 Z rfl fun a Z => sv_callq (v := .bool true) Z rfl rfl (by decide) (ex_call2 cf_strings_HasPrefix (Z.g 417 rfl) rfl) (hasP hq _) fun a Z => sv_n 1 Z rfl fun a Z => Z.nx [416, 2, 0, 1, 3, 8, 9] rfl fun Z => sh (cond_t (Z.g 416 rfl) ?_))
 exact hK _ (Z.pick rfl)
theorem ch79 {gp gs : Nat} {L : ByteArray} {st : Bool} {m : List Bk} {M : Nat → Prop} {w0 w : World} {a : Act} {Q : Exit → Act → World → Prop} (Z : Sv 1040 (dl0 gp gs L st) m M w0 a w) (hq : Lib.hasPrefix L.data.toList (⟨#[35, 69, 88, 84, 45, 88, 45, 80, 76, 65, 89, 76, 73, 83, 84, 45, 84, 89, 80, 69, 58]⟩ : ByteArray).data.toList = false) (hK : ∀ a', Sv 1040 (dl0 gp gs L st) m M w0 a' w → cd91.wp Tryz.prog Q a' w) : (cd79).wp Tryz.prog Q a w := by
 refine wr (sv_n 1 Z rfl fun a Z => sv_callq (v := .bool false) Z rfl rfl (by decide) (ex_call2 cf_strings_HasPrefix (Z.g 442 rfl) rfl) (hasP hq _) fun a Z => sv_n 1 Z rfl fun a Z => Z.nx [441, 2, 0, 1, 3, 8, 9] rfl fun Z => sh (cond_f (Z.g 441 rfl) ?_))
 exact hK _ (Z.pick rfl)
theorem hit79 {gp gs : Nat} {L : ByteArray} {st : Bool} {m : List Bk} {M : Nat → Prop} {w0 w : World} {a : Act} {Q : Exit → Act → World → Prop} (Z : Sv 1040 (dl0 gp gs L st) m M w0 a w) (hq : Lib.hasPrefix L.data.toList (⟨#[35, 69, 88, 84, 45, 88, 45, 80, 76, 65, 89, 76, 73, 83, 84, 45, 84, 89, 80, 69, 58]⟩ : ByteArray).data.toList = true) (hK : ∀ a', Sv 1040 (dl0 gp gs L st) m M w0 a' w → ar79.wp Tryz.prog Q a' w) : (cd79).wp Tryz.prog Q a w := by
 refine wr (sv_n 1 Z rfl fun a Z => sv_callq (v := .bool true) Z rfl rfl (by decide) (ex_call2 cf_strings_HasPrefix (Z.g 442 rfl) rfl) (hasP hq _) fun a Z => sv_n 1 Z rfl fun a Z => Z.nx [441, 2, 0, 1, 3, 8, 9] rfl fun Z => sh (cond_t (Z.g 441 rfl) ?_))
 exact hK _ (Z.pick rfl)
theorem ch91 {gp gs : Nat} {L : ByteArray} {st : Bool} {m : List Bk} {M : Nat → Prop} {w0 w : World} {a : Act} {Q : Exit → Act → World → Prop} (Z : Sv 1040 (dl0 gp gs L st) m M w0 a w) (hq : Lib.hasPrefix L.data.toList (⟨#[35, 69, 88, 84, 45, 88, 45, 68, 73, 83, 67, 79, 78, 84, 73, 78, 85, 73, 84, 89, 45, 83, 69, 81, 85, 69, 78, 67, 69, 58]⟩ : ByteArray).data.toList = false) (hK : ∀ a', Sv 1040 (dl0 gp gs L st) m M w0 a' w → cd96.wp Tryz.prog Q a' w) : (cd91).wp Tryz.prog Q a w := by
 refine wr (sv_n 1 Z rfl fun a Z => sv_callq (v := .bool false) Z rfl rfl (by decide) (ex_call2 cf_strings_HasPrefix (Z.g 469 rfl) rfl) (hasP hq _) fun a Z => sv_n 1 Z rfl fun a Z => Z.nx [468, 2, 0, 1, 3, 8, 9] rfl fun Z => sh (cond_f (Z.g 468 rfl) ?_))
 exact hK _ (Z.pick rfl)
theorem hit91 {gp gs : Nat} {L : ByteArray} {st : Bool} {m : List Bk} {M : Nat → Prop} {w0 w : World} {a : Act} {Q : Exit → Act → World → Prop} (Z : Sv 1040 (dl0 gp gs L st) m M w0 a w) (hq : Lib.hasPrefix L.data.toList (⟨#[35, 69, 88, 84, 45, 88, 45, 68, 73, 83, 67, 79, 78, 84, 73, 78, 85, 73, 84, 89, 45, 83, 69, 81, 85, 69, 78, 67, 69, 58]⟩ : ByteArray).data.toList = true) (hK : ∀ a', Sv 1040 (dl0 gp gs L st) m M w0 a' w → ar91.wp Tryz.prog Q a' w) : (cd91).wp Tryz.prog Q a w := by
 refine wr (sv_n 1 Z rfl fun a Z => sv_callq (v := .bool true) Z rfl rfl (by decide) (ex_call2 cf_strings_HasPrefix (Z.g 469 rfl) rfl) (hasP hq _) fun a Z => sv_n 1 Z rfl fun a Z => Z.nx [468, 2, 0, 1, 3, 8, 9] rfl fun Z => sh (cond_t (Z.g 468 rfl) ?_))
 exact hK _ (Z.pick rfl)
theorem ch96 {gp gs : Nat} {L : ByteArray} {st : Bool} {m : List Bk} {M : Nat → Prop} {w0 w : World} {a : Act} {Q : Exit → Act → World → Prop} (Z : Sv 1040 (dl0 gp gs L st) m M w0 a w) (hq : Lib.hasPrefix L.data.toList (⟨#[35, 69, 88, 84, 45, 88, 45, 83, 84, 65, 82, 84, 58]⟩ : ByteArray).data.toList = false) (hK : ∀ a', Sv 1040 (dl0 gp gs L st) m M w0 a' w → cd109.wp Tryz.prog Q a' w) : (cd96).wp Tryz.prog Q a w := by
 refine wr (sv_n 1 Z rfl fun a Z => sv_callq (v := .bool false) Z rfl rfl (by decide) (ex_call2 cf_strings_HasPrefix (Z.g 494 rfl) rfl) (hasP hq _) fun a Z => sv_n 1 Z rfl fun a Z => Z.nx [493, 2, 0, 1, 3, 8, 9] rfl fun Z => sh (cond_f (Z.g 493 rfl) ?_))
 exact hK _ (Z.pick rfl)
theorem hit96 {gp gs : Nat} {L : ByteArray} {st : Bool} {m : List Bk} {M : Nat → Prop} {w0 w : World} {a : Act} {Q : Exit → Act → World → Prop} (Z : Sv 1040 (dl0 gp gs L st) m M w0 a w) (hq : Lib.hasPrefix L.data.toList (⟨#[35, 69, 88, 84, 45, 88, 45, 83, 84, 65, 82, 84, 58]⟩ : ByteArray).data.toList = true) (hK : ∀ a', Sv 1040 (dl0 gp gs L st) m M w0 a' w → ar96.wp Tryz.prog Q a' w) : (cd96).wp Tryz.prog Q a w := by
 refine wr (sv_n 1 Z rfl fun a Z => sv_callq (v := .bool true) Z rfl rfl (by decide) (ex_call2 cf_strings_HasPrefix (Z.g 494 rfl) rfl) (hasP hq _) fun a Z => sv_n 1 Z rfl fun a Z => Z.nx [493, 2, 0, 1, 3, 8, 9] rfl fun Z => sh (cond_t (Z.g 493 rfl) ?_))
 exact hK _ (Z.pick rfl)
theorem ch109 {gp gs : Nat} {L : ByteArray} {st : Bool} {m : List Bk} {M : Nat → Prop} {w0 w : World} {a : Act} {Q : Exit → Act → World → Prop} (Z : Sv 1040 (dl0 gp gs L st) m M w0 a w) (hq : Lib.hasPrefix L.data.toList (⟨#[35, 69, 88, 84, 45, 88, 45, 75, 69, 89, 58]⟩ : ByteArray).data.toList = false) (hK : ∀ a', Sv 1040 (dl0 gp gs L st) m M w0 a' w → cd127.wp Tryz.prog Q a' w) : (cd109).wp Tryz.prog Q a w := by
 refine wr (sv_n 1 Z rfl fun a Z => sv_callq (v := .bool false) Z rfl rfl (by decide) (ex_call2 cf_strings_HasPrefix (Z.g 531 rfl) rfl) (hasP hq _) fun a Z => sv_n 1 Z rfl fun a Z => Z.nx [530, 2, 0, 1, 3, 8, 9] rfl fun Z => sh (cond_f (Z.g 530 rfl) ?_))
 exact hK _ (Z.pick rfl)
theorem hit109 {gp gs : Nat} {L : ByteArray} {st : Bool} {m : List Bk} {M : Nat → Prop} {w0 w : World} {a : Act} {Q : Exit → Act → World → Prop} (Z : Sv 1040 (dl0 gp gs L st) m M w0 a w) (hq : Lib.hasPrefix L.data.toList (⟨#[35, 69, 88, 84, 45, 88, 45, 75, 69, 89, 58]⟩ : ByteArray).data.toList = true) (hK : ∀ a', Sv 1040 (dl0 gp gs L st) m M w0 a' w → ar109.wp Tryz.prog Q a' w) : (cd109).wp Tryz.prog Q a w := by
 refine wr (sv_n 1 Z rfl fun a Z => sv_callq (v := .bool true) Z rfl rfl (by decide) (ex_call2 cf_strings_HasPrefix (Z.g 531 rfl) rfl) (hasP hq _) fun a Z => sv_n 1 Z rfl fun a Z => Z.nx [530, 2, 0, 1, 3, 8, 9] rfl fun Z => sh (cond_t (Z.g 530 rfl) ?_))
 exact hK _ (Z.pick rfl)
theorem ch127 {gp gs : Nat} {L : ByteArray} {st : Bool} {m : List Bk} {M : Nat → Prop} {w0 w : World} {a : Act} {Q : Exit → Act → World → Prop} (Z : Sv 1040 (dl0 gp gs L st) m M w0 a w) (hq : Lib.hasPrefix L.data.toList (⟨#[35, 69, 88, 84, 45, 88, 45, 77, 65, 80, 58]⟩ : ByteArray).data.toList = false) (hK : ∀ a', Sv 1040 (dl0 gp gs L st) m M w0 a' w → cd141.wp Tryz.prog Q a' w) : (cd127).wp Tryz.prog Q a w := by
 refine wr (sv_n 1 Z rfl fun a Z => sv_callq (v := .bool false) Z rfl rfl (by decide) (ex_call2 cf_strings_HasPrefix (Z.g 599 rfl) rfl) (hasP hq _) fun a Z => sv_n 1 Z rfl fun a Z => Z.nx [598, 2, 0, 1, 3, 8, 9] rfl fun Z => sh (cond_f (Z.g 598 rfl) ?_))
 exact hK _ (Z.pick rfl)
theorem hit127 {gp gs : Nat} {L : ByteArray} {st : Bool} {m : List Bk} {M : Nat → Prop} {w0 w : World} {a : Act} {Q : Exit → Act → World → Prop} (Z : Sv 1040 (dl0 gp gs L st) m M w0 a w) (hq : Lib.hasPrefix L.data.toList (⟨#[35, 69, 88, 84, 45, 88, 45, 77, 65, 80, 58]⟩ : ByteArray).data.toList = true) (hK : ∀ a', Sv 1040 (dl0 gp gs L st) m M w0 a' w → ar127.wp Tryz.prog Q a' w) : (cd127).wp Tryz.prog Q a w := by
 refine wr (sv_n 1 Z rfl fun a Z => sv_callq (v := .bool true) Z rfl rfl (by decide) (ex_call2 cf_strings_HasPrefix (Z.g 599 rfl) rfl) (hasP hq _) fun a Z => sv_n 1 Z rfl fun a Z => Z.nx [598, 2, 0, 1, 3, 8, 9] rfl fun Z => sh (cond_t (Z.g 598 rfl) ?_))
 exact hK _ (Z.pick rfl)
theorem ch141_ {gp gs : Nat} {L : ByteArray} {st : Bool} {m : List Bk} {M : Nat → Prop} {w0 w : World} {a : Act} {Q : Exit → Act → World → Prop} (Z : Sv 1040 (dl0 gp gs L st) m M w0 a w) {b : Bool} (hf : w.cell? ⟨gs, 7, none⟩ = some (.bool b)) (hb : b = false) (hq : Lib.hasPrefix L.data.toList (⟨#[35, 69, 88, 84, 45, 88, 45, 80, 82, 79, 71, 82, 65, 77, 45, 68, 65, 84, 69, 45, 84, 73, 77, 69, 58]⟩ : ByteArray).data.toList = false) (hK : ∀ a', Sv 1040 (dl0 gp gs L st) m M w0 a' w → cd145.wp Tryz.prog Q a' w) : (cd141).wp Tryz.prog Q a w := by
 subst hb
 refine wr (sv_n 3 Z rfl fun a Z => sv_r (v := .bool false) Z (ex_ld (Z.g 655 rfl) lt_bool hf) fun a Z => sv_r (v := .bool true) Z (ex_not (Z.g 656 rfl)) fun a Z => sv_n 2 Z rfl fun a Z => sv_gcallq (v := .bool false) Z rfl rfl (Z.g 658 rfl) rfl (by decide) (ex_call2 cf_strings_HasPrefix (Z.g 659 rfl) rfl) (hasP hq _) fun a Z => sv_n 2 Z rfl fun a Z => Z.nx [652, 2, 0, 1, 3, 8, 9] rfl fun Z => sh (cond_f (Z.g 652 rfl) ?_))
 exact hK _ (Z.pick rfl)
theorem ch141t {gp gs : Nat} {L : ByteArray} {st : Bool} {m : List Bk} {M : Nat → Prop} {w0 w : World} {a : Act} {Q : Exit → Act → World → Prop} (Z : Sv 1040 (dl0 gp gs L st) m M w0 a w) {b : Bool} (hf : w.cell? ⟨gs, 7, none⟩ = some (.bool b)) (hb : b = true) (hK : ∀ a', Sv 1040 (dl0 gp gs L st) m M w0 a' w → cd145.wp Tryz.prog Q a' w) : (cd141).wp Tryz.prog Q a w := by
 subst hb
 refine wr (sv_n 3 Z rfl fun a Z => sv_r (v := .bool true) Z (ex_ld (Z.g 655 rfl) lt_bool hf) fun a Z => sv_r (v := .bool false) Z (ex_not (Z.g 656 rfl)) fun a Z => sv_n 5 Z rfl fun a Z => Z.nx [652, 2, 0, 1, 3, 8, 9] rfl fun Z => sh (cond_f (Z.g 652 rfl) ?_))
 exact hK _ (Z.pick rfl)
theorem ch141 {gp gs : Nat} {L : ByteArray} {st : Bool} {m : List Bk} {M : Nat → Prop} {w0 w : World} {a : Act} {Q : Exit → Act → World → Prop} (Z : Sv 1040 (dl0 gp gs L st) m M w0 a w) {b : Bool} (hf : w.cell? ⟨gs, 7, none⟩ = some (.bool b)) (hq : Lib.hasPrefix L.data.toList (⟨#[35, 69, 88, 84, 45, 88, 45, 80, 82, 79, 71, 82, 65, 77, 45, 68, 65, 84, 69, 45, 84, 73, 77, 69, 58]⟩ : ByteArray).data.toList = false) (hK : ∀ a', Sv 1040 (dl0 gp gs L st) m M w0 a' w → cd145.wp Tryz.prog Q a' w) : (cd141).wp Tryz.prog Q a w := by
 cases b with
 | true => exact ch141t Z hf rfl hK
 | false => exact ch141_ Z hf rfl hq hK
theorem hit141 {gp gs : Nat} {L : ByteArray} {st : Bool} {m : List Bk} {M : Nat → Prop} {w0 w : World} {a : Act} {Q : Exit → Act → World → Prop} (Z : Sv 1040 (dl0 gp gs L st) m M w0 a w) {b : Bool} (hf : w.cell? ⟨gs, 7, none⟩ = some (.bool b)) (hb : b = false) (hq : Lib.hasPrefix L.data.toList (⟨#[35, 69, 88, 84, 45, 88, 45, 80, 82, 79, 71, 82, 65, 77, 45, 68, 65, 84, 69, 45, 84, 73, 77, 69, 58]⟩ : ByteArray).data.toList = true) (hK : ∀ a', Sv 1040 (dl0 gp gs L st) m M w0 a' w → ar141.wp Tryz.prog Q a' w) : (cd141).wp Tryz.prog Q a w := by
 subst hb
 refine wr (sv_n 3 Z rfl fun a Z => sv_r (v := .bool false) Z (ex_ld (Z.g 655 rfl) lt_bool hf) fun a Z => sv_r (v := .bool true) Z (ex_not (Z.g 656 rfl)) fun a Z => sv_n 2 Z rfl fun a Z => sv_gcallq (v := .bool true) Z rfl rfl (Z.g 658 rfl) rfl (by decide) (ex_call2 cf_strings_HasPrefix (Z.g 659 rfl) rfl) (hasP hq _) fun a Z => sv_n 2 Z rfl fun a Z => Z.nx [652, 2, 0, 1, 3, 8, 9] rfl fun Z => sh (cond_t (Z.g 652 rfl) ?_))
 exact hK _ (Z.pick rfl)
theorem ch145_ {gp gs : Nat} {L : ByteArray} {st : Bool} {m : List Bk} {M : Nat → Prop} {w0 w : World} {a : Act} {Q : Exit → Act → World → Prop} (Z : Sv 1040 (dl0 gp gs L st) m M w0 a w) {b : Bool} (hf : w.cell? ⟨gs, 5, none⟩ = some (.bool b)) (hb : b = false) (hq : Lib.hasPrefix L.data.toList (⟨#[35, 69, 88, 84, 45, 88, 45, 66, 89, 84, 69, 82, 65, 78, 71, 69, 58]⟩ : ByteArray).data.toList = false) (hK : ∀ a', Sv 1040 (dl0 gp gs L st) m M w0 a' w → cd157.wp Tryz.prog Q a' w) : (cd145).wp Tryz.prog Q a w := by
 subst hb
 refine wr (sv_n 3 Z rfl fun a Z => sv_r (v := .bool false) Z (ex_ld (Z.g 676 rfl) lt_bool hf) fun a Z => sv_r (v := .bool true) Z (ex_not (Z.g 677 rfl)) fun a Z => sv_n 2 Z rfl fun a Z => sv_gcallq (v := .bool false) Z rfl rfl (Z.g 679 rfl) rfl (by decide) (ex_call2 cf_strings_HasPrefix (Z.g 680 rfl) rfl) (hasP hq _) fun a Z => sv_n 2 Z rfl fun a Z => Z.nx [673, 2, 0, 1, 3, 8, 9] rfl fun Z => sh (cond_f (Z.g 673 rfl) ?_))
 exact hK _ (Z.pick rfl)
theorem ch145t {gp gs : Nat} {L : ByteArray} {st : Bool} {m : List Bk} {M : Nat → Prop} {w0 w : World} {a : Act} {Q : Exit → Act → World → Prop} (Z : Sv 1040 (dl0 gp gs L st) m M w0 a w) {b : Bool} (hf : w.cell? ⟨gs, 5, none⟩ = some (.bool b)) (hb : b = true) (hK : ∀ a', Sv 1040 (dl0 gp gs L st) m M w0 a' w → cd157.wp Tryz.prog Q a' w) : (cd145).wp Tryz.prog Q a w := by
 subst hb
 refine wr (sv_n 3 Z rfl fun a Z => sv_r (v := .bool true) Z (ex_ld (Z.g 676 rfl) lt_bool hf) fun a Z => sv_r (v := .bool false) Z (ex_not (Z.g 677 rfl)) fun a Z => sv_n 5 Z rfl fun a Z => Z.nx [673, 2, 0, 1, 3, 8, 9] rfl fun Z => sh (cond_f (Z.g 673 rfl) ?_))
 exact hK _ (Z.pick rfl)
theorem ch145 {gp gs : Nat} {L : ByteArray} {st : Bool} {m : List Bk} {M : Nat → Prop} {w0 w : World} {a : Act} {Q : Exit → Act → World → Prop} (Z : Sv 1040 (dl0 gp gs L st) m M w0 a w) {b : Bool} (hf : w.cell? ⟨gs, 5, none⟩ = some (.bool b)) (hq : Lib.hasPrefix L.data.toList (⟨#[35, 69, 88, 84, 45, 88, 45, 66, 89, 84, 69, 82, 65, 78, 71, 69, 58]⟩ : ByteArray).data.toList = false) (hK : ∀ a', Sv 1040 (dl0 gp gs L st) m M w0 a' w → cd157.wp Tryz.prog Q a' w) : (cd145).wp Tryz.prog Q a w := by
 cases b with
 | true => exact ch145t Z hf rfl hK
 | false => exact ch145_ Z hf rfl hq hK
theorem hit145 {gp gs : Nat} {L : ByteArray} {st : Bool} {m : List Bk} {M : Nat → Prop} {w0 w : World} {a : Act} {Q : Exit → Act → World → Prop} (Z : Sv 1040 (dl0 gp gs L st) m M w0 a w) {b : Bool} (hf : w.cell? ⟨gs, 5, none⟩ = some (.bool b)) (hb : b = false) (hq : Lib.hasPrefix L.data.toList (⟨#[35, 69, 88, 84, 45, 88, 45, 66, 89, 84, 69, 82, 65, 78, 71, 69, 58]⟩ : ByteArray).data.toList = true) (hK : ∀ a', Sv 1040 (dl0 gp gs L st) m M w0 a' w → ar145.wp Tryz.prog Q a' w) : (cd145).wp Tryz.prog Q a w := by
 subst hb
 refine wr (sv_n 3 Z rfl fun a Z => sv_r (v := .bool false) Z (ex_ld (Z.g 676 rfl) lt_bool hf) fun a Z => sv_r (v := .bool true) Z (ex_not (Z.g 677 rfl)) fun a Z => sv_n 2 Z rfl fun a Z => sv_gcallq (v := .bool true) Z rfl rfl (Z.g 679 rfl) rfl (by decide) (ex_call2 cf_strings_HasPrefix (Z.g 680 rfl) rfl) (hasP hq _) fun a Z => sv_n 2 Z rfl fun a Z => Z.nx [673, 2, 0, 1, 3, 8, 9] rfl fun Z => sh (cond_t (Z.g 673 rfl) ?_))
 exact hK _ (Z.pick rfl)
theorem ch157_ {gp gs : Nat} {L : ByteArray} {st : Bool} {m : List Bk} {M : Nat → Prop} {w0 w : World} {a : Act} {Q : Exit → Act → World → Prop} (Z : Sv 1040 (dl0 gp gs L st) m M w0 a w) {b : Bool} (hf : w.cell? ⟨gs, 4, none⟩ = some (.bool b)) (hb : b = false) (hq : Lib.hasPrefix L.data.toList (⟨#[35, 69, 88, 84, 45, 83, 67, 84, 69, 51, 53, 58]⟩ : ByteArray).data.toList = false) (hK : ∀ a', Sv 1040 (dl0 gp gs L st) m M w0 a' w → cd172.wp Tryz.prog Q a' w) : (cd157).wp Tryz.prog Q a w := by
 subst hb
 refine wr (sv_n 3 Z rfl fun a Z => sv_r (v := .bool false) Z (ex_ld (Z.g 731 rfl) lt_bool hf) fun a Z => sv_r (v := .bool true) Z (ex_not (Z.g 732 rfl)) fun a Z => sv_n 2 Z rfl fun a Z => sv_gcallq (v := .bool false) Z rfl rfl (Z.g 734 rfl) rfl (by decide) (ex_call2 cf_strings_HasPrefix (Z.g 735 rfl) rfl) (hasP hq _) fun a Z => sv_n 2 Z rfl fun a Z => Z.nx [728, 2, 0, 1, 3, 8, 9] rfl fun Z => sh (cond_f (Z.g 728 rfl) ?_))
 exact hK _ (Z.pick rfl)
theorem ch172_ {gp gs : Nat} {L : ByteArray} {st : Bool} {m : List Bk} {M : Nat → Prop} {w0 w : World} {a : Act} {Q : Exit → Act → World → Prop} (Z : Sv 1040 (dl0 gp gs L st) m M w0 a w) {b : Bool} (hf : w.cell? ⟨gs, 4, none⟩ = some (.bool b)) (hb : b = false) (hq : Lib.hasPrefix L.data.toList (⟨#[35, 69, 88, 84, 45, 79, 65, 84, 67, 76, 83, 45, 83, 67, 84, 69, 51, 53, 58]⟩ : ByteArray).data.toList = false) (hK : ∀ a', Sv 1040 (dl0 gp gs L st) m M w0 a' w → cd177.wp Tryz.prog Q a' w) : (cd172).wp Tryz.prog Q a w := by
 subst hb
 refine wr (sv_n 3 Z rfl fun a Z => sv_r (v := .bool false) Z (ex_ld (Z.g 798 rfl) lt_bool hf) fun a Z => sv_r (v := .bool true) Z (ex_not (Z.g 799 rfl)) fun a Z => sv_n 2 Z rfl fun a Z => sv_gcallq (v := .bool false) Z rfl rfl (Z.g 801 rfl) rfl (by decide) (ex_call2 cf_strings_HasPrefix (Z.g 802 rfl) rfl) (hasP hq _) fun a Z => sv_n 2 Z rfl fun a Z => Z.nx [795, 2, 0, 1, 3, 8, 9] rfl fun Z => sh (cond_f (Z.g 795 rfl) ?_))
 exact hK _ (Z.pick rfl)
theorem ch177 {gp gs : Nat} {L : ByteArray} {st : Bool} {m : List Bk} {M : Nat → Prop} {w0 w : World} {a : Act} {Q : Exit → Act → World → Prop} (Z : Sv 1040 (dl0 gp gs L st) m M w0 a w) {b : Bool} (hf : w.cell? ⟨gs, 4, none⟩ = some (.bool b)) (hb : b = false) (hK : ∀ a', Sv 1040 (dl0 gp gs L st) m M w0 a' w → cd180.wp Tryz.prog Q a' w) : (cd177).wp Tryz.prog Q a w := by
 subst hb
 refine wr (sv_n 3 Z rfl fun a Z => sv_r (v := .bool false) Z (ex_ld (Z.g 829 rfl) lt_bool hf) fun a Z => sv_n 15 Z rfl fun a Z => Z.nx [826, 2, 0, 1, 3, 8, 9] rfl fun Z => sh (cond_f (Z.g 826 rfl) ?_))
 exact hK _ (Z.pick rfl)
theorem ch180_ {gp gs : Nat} {L : ByteArray} {st : Bool} {m : List Bk} {M : Nat → Prop} {w0 w : World} {a : Act} {Q : Exit → Act → World → Prop} (Z : Sv 1040 (dl0 gp gs L st) m M w0 a w) {b : Bool} (hf : w.cell? ⟨gs, 4, none⟩ = some (.bool b)) (hb : b = false) (hq : Lib.hasPrefix L.data.toList (⟨#[35, 69, 88, 84, 45, 88, 45, 67, 85, 69, 45, 79, 85, 84, 45, 67, 79, 78, 84, 58]⟩ : ByteArray).data.toList = false) (hK : ∀ a', Sv 1040 (dl0 gp gs L st) m M w0 a' w → cd195.wp Tryz.prog Q a' w) : (cd180).wp Tryz.prog Q a w := by
 subst hb
 refine wr (sv_n 3 Z rfl fun a Z => sv_r (v := .bool false) Z (ex_ld (Z.g 866 rfl) lt_bool hf) fun a Z => sv_r (v := .bool true) Z (ex_not (Z.g 867 rfl)) fun a Z => sv_n 2 Z rfl fun a Z => sv_gcallq (v := .bool false) Z rfl rfl (Z.g 869 rfl) rfl (by decide) (ex_call2 cf_strings_HasPrefix (Z.g 870 rfl) rfl) (hasP hq _) fun a Z => sv_n 2 Z rfl fun a Z => Z.nx [863, 2, 0, 1, 3, 8, 9] rfl fun Z => sh (cond_f (Z.g 863 rfl) ?_))
 exact hK _ (Z.pick rfl)
theorem ch195_ {gp gs : Nat} {L : ByteArray} {st : Bool} {m : List Bk} {M : Nat → Prop} {w0 w : World} {a : Act} {Q : Exit → Act → World → Prop} (Z : Sv 1040 (dl0 gp gs L st) m M w0 a w) {b : Bool} (hf : w.cell? ⟨gs, 4, none⟩ = some (.bool b)) (hb : b = false) (hq : Lib.hasPrefix L.data.toList (⟨#[35, 69, 88, 84, 45, 88, 45, 67, 85, 69, 45, 79, 85, 84]⟩ : ByteArray).data.toList = false) (hK : ∀ a', Sv 1040 (dl0 gp gs L st) m M w0 a' w → cd203.wp Tryz.prog Q a' w) : (cd195).wp Tryz.prog Q a w := by
 subst hb
 refine wr (sv_n 3 Z rfl fun a Z => sv_r (v := .bool false) Z (ex_ld (Z.g 940 rfl) lt_bool hf) fun a Z => sv_r (v := .bool true) Z (ex_not (Z.g 941 rfl)) fun a Z => sv_n 2 Z rfl fun a Z => sv_gcallq (v := .bool false) Z rfl rfl (Z.g 943 rfl) rfl (by decide) (ex_call2 cf_strings_HasPrefix (Z.g 944 rfl) rfl) (hasP hq _) fun a Z => sv_n 2 Z rfl fun a Z => Z.nx [937, 2, 0, 1, 3, 8, 9] rfl fun Z => sh (cond_f (Z.g 937 rfl) ?_))
 exact hK _ (Z.pick rfl)
theorem ch203_ {gp gs : Nat} {L : ByteArray} {st : Bool} {m : List Bk} {M : Nat → Prop} {w0 w : World} {a : Act} {Q : Exit → Act → World → Prop} (Z : Sv 1040 (dl0 gp gs L st) m M w0 a w) {b : Bool} (hf : w.cell? ⟨gs, 4, none⟩ = some (.bool b)) (hb : b = false) (hq : decide (L.data.toList = (⟨#[35, 69, 88, 84, 45, 88, 45, 67, 85, 69, 45, 73, 78]⟩ : ByteArray).data.toList) = false) (hK : ∀ a', Sv 1040 (dl0 gp gs L st) m M w0 a' w → cd208.wp Tryz.prog Q a' w) : (cd203).wp Tryz.prog Q a w := by
 subst hb
 refine wr (sv_n 3 Z rfl fun a Z => sv_r (v := .bool false) Z (ex_ld (Z.g 985 rfl) lt_bool hf) fun a Z => sv_r (v := .bool true) Z (ex_not (Z.g 986 rfl)) fun a Z => sv_n 2 Z rfl fun a Z => ?_)
 refine sv_g (v := .bool false) Z (Z.g 988 rfl) (ex_eqsk (Z.g 989 rfl) rfl (by exact hq)) fun a Z => sv_n 2 Z rfl fun a Z => Z.nx [982, 2, 0, 1, 3, 8, 9] rfl fun Z => sh (cond_f (Z.g 982 rfl) ?_)
 exact hK _ (Z.pick rfl)
theorem ch208_ {gp gs : Nat} {L : ByteArray} {st : Bool} {m : List Bk} {M : Nat → Prop} {w0 w : World} {a : Act} {Q : Exit → Act → World → Prop} (Z : Sv 1040 (dl0 gp gs L st) m M w0 a w) {b : Bool} (hf : w.cell? ⟨gs, 6, none⟩ = some (.bool b)) (hb : b = false) (hq : Lib.hasPrefix L.data.toList (⟨#[35, 69, 88, 84, 45, 88, 45, 68, 73, 83, 67, 79, 78, 84, 73, 78, 85, 73, 84, 89]⟩ : ByteArray).data.toList = false) (hK : ∀ a', Sv 1040 (dl0 gp gs L st) m M w0 a' w → cd211.wp Tryz.prog Q a' w) : (cd208).wp Tryz.prog Q a w := by
 subst hb
 refine wr (sv_n 3 Z rfl fun a Z => sv_r (v := .bool false) Z (ex_ld (Z.g 1014 rfl) lt_bool hf) fun a Z => sv_r (v := .bool true) Z (ex_not (Z.g 1015 rfl)) fun a Z => sv_n 2 Z rfl fun a Z => sv_gcallq (v := .bool false) Z rfl rfl (Z.g 1017 rfl) rfl (by decide) (ex_call2 cf_strings_HasPrefix (Z.g 1018 rfl) rfl) (hasP hq _) fun a Z => sv_n 2 Z rfl fun a Z => Z.nx [1011, 2, 0, 1, 3, 8, 9] rfl fun Z => sh (cond_f (Z.g 1011 rfl) ?_))
 exact hK _ (Z.pick rfl)
theorem hit208 {gp gs : Nat} {L : ByteArray} {st : Bool} {m : List Bk} {M : Nat → Prop} {w0 w : World} {a : Act} {Q : Exit → Act → World → Prop} (Z : Sv 1040 (dl0 gp gs L st) m M w0 a w) {b : Bool} (hf : w.cell? ⟨gs, 6, none⟩ = some (.bool b)) (hb : b = false) (hq : Lib.hasPrefix L.data.toList (⟨#[35, 69, 88, 84, 45, 88, 45, 68, 73, 83, 67, 79, 78, 84, 73, 78, 85, 73, 84, 89]⟩ : ByteArray).data.toList = true) (hK : ∀ a', Sv 1040 (dl0 gp gs L st) m M w0 a' w → ar208.wp Tryz.prog Q a' w) : (cd208).wp Tryz.prog Q a w := by
 subst hb
 refine wr (sv_n 3 Z rfl fun a Z => sv_r (v := .bool false) Z (ex_ld (Z.g 1014 rfl) lt_bool hf) fun a Z => sv_r (v := .bool true) Z (ex_not (Z.g 1015 rfl)) fun a Z => sv_n 2 Z rfl fun a Z => sv_gcallq (v := .bool true) Z rfl rfl (Z.g 1017 rfl) rfl (by decide) (ex_call2 cf_strings_HasPrefix (Z.g 1018 rfl) rfl) (hasP hq _) fun a Z => sv_n 2 Z rfl fun a Z => Z.nx [1011, 2, 0, 1, 3, 8, 9] rfl fun Z => sh (cond_t (Z.g 1011 rfl) ?_))
 exact hK _ (Z.pick rfl)
theorem hit211 {gp gs : Nat} {L : ByteArray} {st : Bool} {m : List Bk} {M : Nat → Prop} {w0 w : World} {a : Act} {Q : Exit → Act → World → Prop} (Z : Sv 1040 (dl0 gp gs L st) m M w0 a w) (hq : Lib.hasPrefix L.data.toList (⟨#[35, 69, 88, 84, 45, 88, 45, 73, 45, 70, 82, 65, 77, 69, 83, 45, 79, 78, 76, 89]⟩ : ByteArray).data.toList = true) (hK : ∀ a', Sv 1040 (dl0 gp gs L st) m M w0 a' w → ar211.wp Tryz.prog Q a' w) : (cd211).wp Tryz.prog Q a w := by
 refine wr (sv_n 1 Z rfl fun a Z => sv_callq (v := .bool true) Z rfl rfl (by decide) (ex_call2 cf_strings_HasPrefix (Z.g 1028 rfl) rfl) (hasP hq _) fun a Z => sv_n 1 Z rfl fun a Z => Z.nx [1027, 2, 0, 1, 3, 8, 9] rfl fun Z => sh (cond_t (Z.g 1027 rfl) ?_))
 exact hK _ (Z.pick rfl)
theorem dl_end {gp : Nat} {m : List Bk} {M : Nat → Prop} {w0 w : World} {a : Act} {R : Ending → World → Prop} (Z : Sv 1040 ((0, pt gp 0) :: (9, .nilIface) :: []) m M w0 a w) (hR : R (.returned .nilIface) w) : (cdTail).wp Tryz.prog (bodyPost Tryz.prog Tryz.f47 R) a w := by
 refine wr (sv_n 2 Z rfl fun a Z => Z.nx [8, 0, 9] rfl fun Z => sh (wp_ret ?_))
 try simp only [Exit.inBlock, Exit.then]
 exact ret_of_ev Z.ev rfl (Z.g 8 rfl) hR
theorem dl_in {B : Nat} {G : Ge} {gp gs : Nat} {s L : ByteArray} {st : Bool} {R : Ending → World → Prop} (w : World) (hG : Env B G w) (hsz : s.size ≤ 1000000) (hasc : Asc s) (hLs : trimA s = L) (M : Nat → Prop) (hK : ∀ a w1, Below w.heap.size w w1 → Sv 1040 (dl0 gp gs L st) [] M w a w1 → (cd3).wp Tryz.prog (Exit.inBlock 0 (Exit.then (cdTail.wp Tryz.prog (bodyPost Tryz.prog Tryz.f47 R)) (bodyPost Tryz.prog Tryz.f47 R))) a w1) : Calls Tryz.prog 47 #[pt gp 0, pt gs 0, .string s, .bool st] w R := by
 refine calls_of_ev Tryz.func47 rfl (show 4 ≤ 1040 from by decide) fun a hE => ?_
 have hE : Ev 1040 ((0, pt gp 0) :: (1, pt gs 0) :: (2, .string s) :: (3, .bool st) :: []) a := hE
 have Z : Sv 1040 ((0, pt gp 0) :: (1, pt gs 0) :: (2, .string s) :: (3, .bool st) :: []) [] M w a w := Sv.start hE _ _
 clear hE
 refine wr (sv_n 1 Z rfl fun a Z => Z.nx [8, 0, 1, 2, 3] rfl fun Z => sh (wr (sv_n 1 Z rfl fun a Z => Z.nx [9, 8, 0, 1, 2, 3] rfl fun Z => sh (wr (sv_n 1 Z rfl fun a Z => sv_callv (v := .string L) Z rfl rfl (by decide) (ex_call1 cf_strings_TrimSpace (Z.g 30 rfl)) (trimL hLs (Nat.le_trans hsz (by decide)) hasc _ hG) fun a w1 hbw1 Z => sv_n 1 Z rfl fun a Z => ?_)))))
 refine Z.nx [2, 9, 8, 0, 1, 3] rfl fun Z => sh (wp_seq (wp_block ?_))
 refine hK _ _ hbw1 (Z.pick rfl)
end Go.Proofs.YtflppablgdegcaaGreatDoor
