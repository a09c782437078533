/- Part 5 of the proof of the law FnItems: for every input the law returns true, the inputs read as they did, and memory that was there is as it was; under the conditions of the given row alone. -/
import Derived.Test.YtihmcipajjakgaaGreatDoorA4
set_option linter.all false
set_option linter.unusedVariables false
set_option maxRecDepth 20000
namespace Go.Proofs.YtihmcipajjakgaaGreatDoor
open Go.Proofs
namespace g_parseState_emph
noncomputable def body : Code := bodyOf Tryz.f57
def k4 (R : EP) (Xa : OA → Nat → Nat → Nat → Nat → Value → Value → Int → WP) (x2q : OA) (x2n : Nat) (x2c : Nat) (x4 : Nat) (x7 : Nat) (x8 : Value) (x9 : Value) (x10 : Int) (x13 : OA) (x21 : OA) (w : World) : Prop :=
 nilP x13 fun a147 =>
 ∃ (v148 : Bool), w.cell? (a147.add 1) = some (.bool v148) ∧
 br v148
 (∃ (v149q : OA), ∃ (v149n : Nat), ∃ (v149c : Nat), w.cell? ⟨x4, 0, none⟩ = some (.slice v149q v149n v149c) ∧
 nilP x13 fun a150 =>
 stV w ((a150.add 3).add 0) (.int .i64 (v149n : Int)) fun w151 =>
 ∃ (v152q : OA), ∃ (v152n : Nat), ∃ (v152c : Nat), w151.cell? ⟨x4, 0, none⟩ = some (.slice v152q v152n v152c) ∧
 ∃ (r153q : OA), ∃ (r153n : Nat), ∃ (r153c : Nat), ∃ w154, (Instr.buildSlice ty_S_Inline 1 #[(0, .iface ty_P_emphPlain (.pointer x13))]).run P w151 = .ok (.slice r153q r153n r153c) w154 ∧
 ∃ (r155q : OA), ∃ (r155n : Nat), ∃ (r155c : Nat), ∃ w156, (Builtin.append_ #[ty_S_Inline, ty_S_Inline] ty_S_Inline #[.slice v152q v152n v152c, .slice r153q r153n r153c]).run P w154 = .ok (.slice r155q r155n r155c) w156 ∧
 stV w156 ⟨x4, 0, none⟩ (.slice r155q r155n r155c) fun w157 =>
 nilP x21 fun a158 =>
 ∃ (v159q : OA), ∃ (v159n : Nat), ∃ (v159c : Nat), w157.cell? a158 = some (.slice v159q v159n v159c) ∧
 ∃ (r160q : OA), ∃ (r160n : Nat), ∃ (r160c : Nat), ∃ w161, (Instr.buildSlice ty_S_P_emphPlain 1 #[(0, .pointer x13)]).run P w157 = .ok (.slice r160q r160n r160c) w161 ∧
 ∃ (r162q : OA), ∃ (r162n : Nat), ∃ (r162c : Nat), ∃ w163, (Builtin.append_ #[ty_S_P_emphPlain, ty_S_P_emphPlain] ty_S_P_emphPlain #[.slice v159q v159n v159c, .slice r160q r160n r160c]).run P w161 = .ok (.slice r162q r162n r162c) w163 ∧
 nilP x21 fun a164 =>
 stV w163 (a164.add 0) (.slice r162q r162n r162c) fun w165 =>
 Xa x2q x2n x2c x4 x7 x8 x9 (IntKind.i64.wrap (x10 + 1)) w165)
 (tk w fun w166 =>
 nilP x13 fun a167 =>
 ∃ (v168q : OA), ∃ (v168n : Nat), ∃ (v168c : Nat), w166.cell? ⟨x4, 0, none⟩ = some (.slice v168q v168n v168c) ∧
 ∃ (r169q : OA), ∃ (r169n : Nat), ∃ (r169c : Nat), ∃ w170, (Instr.buildSlice ty_S_Inline 1 #[(0, .iface ty_P_Plain (.pointer (some a167)))]).run P w166 = .ok (.slice r169q r169n r169c) w170 ∧
 SameC w166 w170 ⟨x4, 0, none⟩ 1 ∧
 ∃ (r171q : OA), ∃ (r171n : Nat), ∃ (r171c : Nat), ∃ w172, (Builtin.append_ #[ty_S_Inline, ty_S_Inline] ty_S_Inline #[.slice v168q v168n v168c, .slice r169q r169n r169c]).run P w170 = .ok (.slice r171q r171n r171c) w172 ∧
 stV w172 ⟨x4, 0, none⟩ (.slice r171q r171n r171c) fun w173 =>
 Xa x2q x2n x2c x4 x7 x8 x9 (IntKind.i64.wrap (x10 + 1)) w173)

def k7 (R : EP) (Xa : OA → Nat → Nat → Nat → Nat → Value → Value → Int → WP) (Xb : OA → Nat → Nat → Nat → Nat → Value → Value → Int → OA → OA → WP) (Xc : OA → Nat → Nat → Nat → Nat → Value → Value → Int → OA → OA → Int → WP) (x2q : OA) (x2n : Nat) (x2c : Nat) (x4 : Nat) (x7 : Nat) (x8 : Value) (x9 : Value) (x10 : Int) (x13 : OA) (x15 : OA) (x18 : Int) (x19 : Bool) (x20 : OA) (w : World) : Prop :=
 enterE P (do let d ← Deferred.ofValue x9 #[]; invoke d.target d.args) (fun e w267 => e = .returned (.tuple #[]) ∧
 br x19
 (∃ (v268q : OA), ∃ (v268n : Nat), ∃ (v268c : Nat), w267.cell? ⟨x4, 0, none⟩ = some (.slice v268q v268n v268c) ∧
 ∃ (r269q : OA), ∃ (r269n : Nat), ∃ (r269c : Nat), ∃ w270, (Instr.buildSlice ty_S_Inline 1 #[(0, .iface ty_P_Del (.pointer x20))]).run P w267 = .ok (.slice r269q r269n r269c) w270 ∧
 ∃ (r271q : OA), ∃ (r271n : Nat), ∃ (r271c : Nat), ∃ w272, (Builtin.append_ #[ty_S_Inline, ty_S_Inline] ty_S_Inline #[.slice v268q v268n v268c, .slice r269q r269n r269c]).run P w270 = .ok (.slice r271q r271n r271c) w272 ∧
 stV w272 ⟨x4, 0, none⟩ (.slice r271q r271n r271c) fun w273 =>
 Xb x2q x2n x2c x4 x7 x8 x9 x10 x13 x15 w273)
 (br (x18 == 2)
 (∃ (v274q : OA), ∃ (v274n : Nat), ∃ (v274c : Nat), w267.cell? ⟨x4, 0, none⟩ = some (.slice v274q v274n v274c) ∧
 ∃ (r275q : OA), ∃ (r275n : Nat), ∃ (r275c : Nat), ∃ w276, (Instr.buildSlice ty_S_Inline 1 #[(0, .iface ty_P_Strong (.pointer x20))]).run P w267 = .ok (.slice r275q r275n r275c) w276 ∧
 ∃ (r277q : OA), ∃ (r277n : Nat), ∃ (r277c : Nat), ∃ w278, (Builtin.append_ #[ty_S_Inline, ty_S_Inline] ty_S_Inline #[.slice v274q v274n v274c, .slice r275q r275n r275c]).run P w276 = .ok (.slice r277q r277n r277c) w278 ∧
 stV w278 ⟨x4, 0, none⟩ (.slice r277q r277n r277c) fun w279 =>
 Xb x2q x2n x2c x4 x7 x8 x9 x10 x13 x15 w279)
 (∃ (v280q : OA), ∃ (v280n : Nat), ∃ (v280c : Nat), w267.cell? ⟨x4, 0, none⟩ = some (.slice v280q v280n v280c) ∧
 ∃ (r281q : OA), ∃ (r281n : Nat), ∃ (r281c : Nat), ∃ w282, (Instr.buildSlice ty_S_Inline 1 #[(0, .iface ty_P_Emph (.pointer x20))]).run P w267 = .ok (.slice r281q r281n r281c) w282 ∧
 ∃ (r283q : OA), ∃ (r283n : Nat), ∃ (r283c : Nat), ∃ w284, (Builtin.append_ #[ty_S_Inline, ty_S_Inline] ty_S_Inline #[.slice v280q v280n v280c, .slice r281q r281n r281c]).run P w282 = .ok (.slice r283q r283n r283c) w284 ∧
 stV w284 ⟨x4, 0, none⟩ (.slice r283q r283n r283c) fun w285 =>
 Xb x2q x2n x2c x4 x7 x8 x9 x10 x13 x15 w285))) w

def k2 (R : EP) (Xa : OA → Nat → Nat → Nat → Nat → Value → Value → Int → WP) (x2q : OA) (x2n : Nat) (x2c : Nat) (x4 : Nat) (x7 : Nat) (x8 : Value) (x9 : Value) (x10 : Int) (x13 : OA) (x21 : OA) (w : World) : Prop :=
 nilP x13 fun a132 =>
 ∃ (v133 : BA), w.cell? a132 = some (.string v133) ∧
 br (v133.toList == (ByteArray.mk #[34]).toList)
 (nilP x13 fun a134 =>
 ∃ (v135 : Bool), w.cell? (a134.add 2) = some (.bool v135) ∧
 br v135
 (nilP x13 fun a136 =>
 stV w (a136.add 0) (.string (ByteArray.mk #[226, 128, 157])) fun w137 =>
 k4 R Xa x2q x2n x2c x4 x7 x8 x9 x10 x13 x21 w137)
 (nilP x13 fun a138 =>
 stV w (a138.add 0) (.string (ByteArray.mk #[226, 128, 156])) fun w139 =>
 k4 R Xa x2q x2n x2c x4 x7 x8 x9 x10 x13 x21 w139))
 (k4 R Xa x2q x2n x2c x4 x7 x8 x9 x10 x13 x21 w)

def k6 (R : EP) (Xa : OA → Nat → Nat → Nat → Nat → Value → Value → Int → WP) (Xb : OA → Nat → Nat → Nat → Nat → Value → Value → Int → OA → OA → WP) (Xc : OA → Nat → Nat → Nat → Nat → Value → Value → Int → OA → OA → Int → WP) (x2q : OA) (x2n : Nat) (x2c : Nat) (x4 : Nat) (x7 : Nat) (x8 : Value) (x9 : Value) (x10 : Int) (x13 : OA) (x15 : OA) (x17 : OA) (x18 : Int) (w : World) : Prop :=
 nilP x13 fun a228 =>
 ∃ (v229 : BA), w.cell? a228 = some (.string v229) ∧
 0 ≤ (0 : Int) ∧ 0 < (v229.size : Int) ∧
 tk w fun w230 =>
 nilP x13 fun a231 =>
 nilP x17 fun a232 =>
 ∃ (v233 : BA), w230.cell? a231 = some (.string v233) ∧
 0 ≤ x18 ∧ x18 ≤ (v233.size : Int) ∧
 ∃ (v234q : OA), ∃ (v234n : Nat), ∃ (v234c : Nat), w230.cell? ⟨x4, 0, none⟩ = some (.slice v234q v234n v234c) ∧
 ∃ (v235 : Int), w230.cell? (a232.add 3) = some (.int .i64 v235) ∧
 ∃ (r236q : OA), ∃ (r236n : Nat), ∃ (r236c : Nat), (∀ w, (Instr.sliceAt ty_S_Inline (.slice v234q v234n v234c) (some (.int .i64 (IntKind.i64.wrap (v235 + 1)))) none none).run P w = .ok (.slice r236q r236n r236c) w) ∧
 ∃ (r237q : OA), ∃ (r237n : Nat), ∃ (r237c : Nat), ∃ w238, (Builtin.append_ #[ty_S_Inline, ty_S_Inline] ty_S_Inline #[.slice none 0 0, .slice r236q r236n r236c]).run P w230 = .ok (.slice r237q r237n r237c) w238 ∧
 SameC w230 w238 (a231) 1 ∧
 box w238 #[.string (v233.extract 0 (Int.toNat x18)), .slice r237q r237n r237c] ty_Emph fun b239 w240 =>
 tk w240 fun w241 =>
 nilP x17 fun a242 =>
 nilP x17 fun a243 =>
 ∃ (v244 : BA), w241.cell? a242 = some (.string v244) ∧
 ∃ (v245 : BA), w241.cell? a243 = some (.string v245) ∧
 0 ≤ (IntKind.i64.wrap ((v245.size : Int) - x18)) ∧ (IntKind.i64.wrap ((v245.size : Int) - x18)) ≤ (v244.size : Int) ∧
 nilP x17 fun a246 =>
 stV w241 (a246.add 0) (.string (v244.extract 0 (Int.toNat (IntKind.i64.wrap ((v245.size : Int) - x18))))) fun w247 =>
 nilP x13 fun a248 =>
 ∃ (v249 : BA), w247.cell? a248 = some (.string v249) ∧
 0 ≤ x18 ∧ x18 ≤ (v249.size : Int) ∧
 nilP x13 fun a250 =>
 stV w247 (a250.add 0) (.string (v249.extract (Int.toNat x18) v249.size)) fun w251 =>
 nilP x17 fun a252 =>
 ∃ (v253 : BA), w251.cell? a252 = some (.string v253) ∧
 br (v253.toList == (ByteArray.mk #[]).toList)
 (tk w251 fun w254 =>
 nilP x17 fun a255 =>
 ∃ (v256q : OA), ∃ (v256n : Nat), ∃ (v256c : Nat), w254.cell? ⟨x4, 0, none⟩ = some (.slice v256q v256n v256c) ∧
 ∃ (v257 : Int), w254.cell? (a255.add 3) = some (.int .i64 v257) ∧
 ∃ (r258q : OA), ∃ (r258n : Nat), ∃ (r258c : Nat), (∀ w, (Instr.sliceAt ty_S_Inline (.slice v256q v256n v256c) none (some (.int .i64 v257)) none).run P w = .ok (.slice r258q r258n r258c) w) ∧
 stV w254 ⟨x4, 0, none⟩ (.slice r258q r258n r258c) fun w259 =>
 k7 R Xa Xb Xc x2q x2n x2c x4 x7 x8 x9 x10 x13 x15 x18 ((bt v229 0) == 126) (some ⟨b239, 0, none⟩) w259)
 (tk w251 fun w260 =>
 nilP x17 fun a261 =>
 ∃ (v262q : OA), ∃ (v262n : Nat), ∃ (v262c : Nat), w260.cell? ⟨x4, 0, none⟩ = some (.slice v262q v262n v262c) ∧
 ∃ (v263 : Int), w260.cell? (a261.add 3) = some (.int .i64 v263) ∧
 ∃ (r264q : OA), ∃ (r264n : Nat), ∃ (r264c : Nat), (∀ w, (Instr.sliceAt ty_S_Inline (.slice v262q v262n v262c) none (some (.int .i64 (IntKind.i64.wrap (v263 + 1)))) none).run P w = .ok (.slice r264q r264n r264c) w) ∧
 stV w260 ⟨x4, 0, none⟩ (.slice r264q r264n r264c) fun w265 =>
 k7 R Xa Xb Xc x2q x2n x2c x4 x7 x8 x9 x10 x13 x15 x18 ((bt v229 0) == 126) (some ⟨b239, 0, none⟩) w265)

def k1 (R : EP) (Xa : OA → Nat → Nat → Nat → Nat → Value → Value → Int → WP) (x2q : OA) (x2n : Nat) (x2c : Nat) (x4 : Nat) (x7 : Nat) (x8 : Value) (x9 : Value) (x10 : Int) (x13 : OA) (w : World) : Prop :=
 nilP x13 fun a41 =>
 ∃ (v42 : BA), w.cell? a41 = some (.string v42) ∧
 br (!(v42.toList == (ByteArray.mk #[]).toList))
 (nilP x13 fun a43 =>
 ∃ (v44 : BA), w.cell? a43 = some (.string v44) ∧
 0 ≤ (0 : Int) ∧ 0 < (v44.size : Int) ∧
 enterE P (do let d ← Deferred.ofValue x8 #[.int .u8 (bt v44 0)]; invoke d.target d.args) (fun e w46 => ∃ (r45 : Int), e = .returned (.int .i64 r45) ∧
 0 ≤ r45 ∧ r45 < (5 : Int) ∧
 nilP x13 fun a47 =>
 ∃ (v48 : BA), w46.cell? a47 = some (.string v48) ∧
 br (v48.toList == (ByteArray.mk #[39]).toList)
 (nilP x13 fun a49 =>
 stV w46 (a49.add 0) (.string (ByteArray.mk #[226, 128, 153])) fun w50 =>
 k2 R Xa x2q x2n x2c x4 x7 x8 x9 x10 x13 (some ((⟨x7, 0, none⟩ : Addr).add (Int.toNat r45 * 1))) w50)
 (k2 R Xa x2q x2n x2c x4 x7 x8 x9 x10 x13 (some ((⟨x7, 0, none⟩ : Addr).add (Int.toNat r45 * 1))) w46)) w)
 (Xa x2q x2n x2c x4 x7 x8 x9 (IntKind.i64.wrap (x10 + 1)) w)

def k5 (R : EP) (Xa : OA → Nat → Nat → Nat → Nat → Value → Value → Int → WP) (Xb : OA → Nat → Nat → Nat → Nat → Value → Value → Int → OA → OA → WP) (Xc : OA → Nat → Nat → Nat → Nat → Value → Value → Int → OA → OA → Int → WP) (x2q : OA) (x2n : Nat) (x2c : Nat) (x4 : Nat) (x7 : Nat) (x8 : Value) (x9 : Value) (x10 : Int) (x13 : OA) (x15 : OA) (x16 : Int) (x17 : OA) (w : World) : Prop :=
 nilP x13 fun a174 =>
 ∃ (v175 : BA), w.cell? a174 = some (.string v175) ∧
 0 ≤ (0 : Int) ∧ 0 < (v175.size : Int) ∧
 br ((bt v175 0) == 34)
 (tk w fun w176 =>
 nilP x17 fun a177 =>
 ∃ (v178q : OA), ∃ (v178n : Nat), ∃ (v178c : Nat), w176.cell? ⟨x4, 0, none⟩ = some (.slice v178q v178n v178c) ∧
 ∃ (v179 : Int), w176.cell? (a177.add 3) = some (.int .i64 v179) ∧
 0 ≤ v179 ∧ v179 < (v178n : Int) ∧
 nilP v178q fun a180 =>
 ∃ (v181 : Value), w176.cell? (a180.add (Int.toNat v179 * 1)) = some v181 ∧
 ∃ (r182 : OA), (∀ w, (Instr.typeAssert v181 ty_Inline ty_P_emphPlain false).run P w = .ok (.pointer r182) w) ∧
 nilP r182 fun a183 =>
 stV w176 (a183.add 0) (.string (ByteArray.mk #[226, 128, 156])) fun w184 =>
 nilP x13 fun a185 =>
 stV w184 (a185.add 0) (.string (ByteArray.mk #[226, 128, 157])) fun w186 =>
 ∃ (v187q : OA), ∃ (v187n : Nat), ∃ (v187c : Nat), w186.cell? ⟨x4, 0, none⟩ = some (.slice v187q v187n v187c) ∧
 ∃ (r188q : OA), ∃ (r188n : Nat), ∃ (r188c : Nat), ∃ w189, (Instr.buildSlice ty_S_Inline 1 #[(0, .iface ty_P_emphPlain (.pointer x13))]).run P w186 = .ok (.slice r188q r188n r188c) w189 ∧
 ∃ (r190q : OA), ∃ (r190n : Nat), ∃ (r190c : Nat), ∃ w191, (Builtin.append_ #[ty_S_Inline, ty_S_Inline] ty_S_Inline #[.slice v187q v187n v187c, .slice r188q r188n r188c]).run P w189 = .ok (.slice r190q r190n r190c) w191 ∧
 stV w191 ⟨x4, 0, none⟩ (.slice r190q r190n r190c) fun w192 =>
 nilP x15 fun a193 =>
 ∃ (v194q : OA), ∃ (v194n : Nat), ∃ (v194c : Nat), w192.cell? a193 = some (.slice v194q v194n v194c) ∧
 ∃ (r195q : OA), ∃ (r195n : Nat), ∃ (r195c : Nat), ∃ w196, (Instr.sliceAt ty_S_P_emphPlain (.slice v194q v194n v194c) none (some (.int .i64 x16)) none).run P w192 = .ok (.slice r195q r195n r195c) w196 ∧
 nilP x15 fun a197 =>
 stV w196 (a197.add 0) (.slice r195q r195n r195c) fun w198 =>
 Xa x2q x2n x2c x4 x7 x8 x9 (IntKind.i64.wrap (x10 + 1)) w198)
 (nilP x13 fun a199 =>
 ∃ (v200 : BA), w.cell? a199 = some (.string v200) ∧
 0 ≤ (0 : Int) ∧ 0 < (v200.size : Int) ∧
 br ((bt v200 0) == 39)
 (tk w fun w201 =>
 nilP x17 fun a202 =>
 ∃ (v203q : OA), ∃ (v203n : Nat), ∃ (v203c : Nat), w201.cell? ⟨x4, 0, none⟩ = some (.slice v203q v203n v203c) ∧
 ∃ (v204 : Int), w201.cell? (a202.add 3) = some (.int .i64 v204) ∧
 0 ≤ v204 ∧ v204 < (v203n : Int) ∧
 nilP v203q fun a205 =>
 ∃ (v206 : Value), w201.cell? (a205.add (Int.toNat v204 * 1)) = some v206 ∧
 ∃ (r207 : OA), (∀ w, (Instr.typeAssert v206 ty_Inline ty_P_emphPlain false).run P w = .ok (.pointer r207) w) ∧
 nilP r207 fun a208 =>
 stV w201 (a208.add 0) (.string (ByteArray.mk #[226, 128, 152])) fun w209 =>
 nilP x13 fun a210 =>
 stV w209 (a210.add 0) (.string (ByteArray.mk #[226, 128, 153])) fun w211 =>
 ∃ (v212q : OA), ∃ (v212n : Nat), ∃ (v212c : Nat), w211.cell? ⟨x4, 0, none⟩ = some (.slice v212q v212n v212c) ∧
 ∃ (r213q : OA), ∃ (r213n : Nat), ∃ (r213c : Nat), ∃ w214, (Instr.buildSlice ty_S_Inline 1 #[(0, .iface ty_P_emphPlain (.pointer x13))]).run P w211 = .ok (.slice r213q r213n r213c) w214 ∧
 ∃ (r215q : OA), ∃ (r215n : Nat), ∃ (r215c : Nat), ∃ w216, (Builtin.append_ #[ty_S_Inline, ty_S_Inline] ty_S_Inline #[.slice v212q v212n v212c, .slice r213q r213n r213c]).run P w214 = .ok (.slice r215q r215n r215c) w216 ∧
 stV w216 ⟨x4, 0, none⟩ (.slice r215q r215n r215c) fun w217 =>
 nilP x15 fun a218 =>
 ∃ (v219q : OA), ∃ (v219n : Nat), ∃ (v219c : Nat), w217.cell? a218 = some (.slice v219q v219n v219c) ∧
 ∃ (r220q : OA), ∃ (r220n : Nat), ∃ (r220c : Nat), ∃ w221, (Instr.sliceAt ty_S_P_emphPlain (.slice v219q v219n v219c) none (some (.int .i64 x16)) none).run P w217 = .ok (.slice r220q r220n r220c) w221 ∧
 nilP x15 fun a222 =>
 stV w221 (a222.add 0) (.slice r220q r220n r220c) fun w223 =>
 Xa x2q x2n x2c x4 x7 x8 x9 (IntKind.i64.wrap (x10 + 1)) w223)
 (nilP x13 fun a224 =>
 ∃ (v225 : BA), w.cell? a224 = some (.string v225) ∧
 br (decide ((v225.size : Int) ≥ 2))
 (nilP x17 fun a226 =>
 ∃ (v227 : BA), w.cell? a226 = some (.string v227) ∧
 br (decide ((v227.size : Int) ≥ 2))
 (k6 R Xa Xb Xc x2q x2n x2c x4 x7 x8 x9 x10 x13 x15 x17 2 w)
 (k6 R Xa Xb Xc x2q x2n x2c x4 x7 x8 x9 x10 x13 x15 x17 1 w))
 (k6 R Xa Xb Xc x2q x2n x2c x4 x7 x8 x9 x10 x13 x15 x17 1 w)))

def k3 (R : EP) (Xa : OA → Nat → Nat → Nat → Nat → Value → Value → Int → WP) (Xb : OA → Nat → Nat → Nat → Nat → Value → Value → Int → OA → OA → WP) (Xc : OA → Nat → Nat → Nat → Nat → Value → Value → Int → OA → OA → Int → WP) (x2q : OA) (x2n : Nat) (x2c : Nat) (x4 : Nat) (x7 : Nat) (x8 : Value) (x9 : Value) (x10 : Int) (x13 : OA) (x15 : OA) (x16 : Int) (x17 : OA) (w : World) : Prop :=
 tk w fun w140 =>
 nilP x13 fun a141 =>
 ∃ (v142 : BA), w140.cell? a141 = some (.string v142) ∧
 0 ≤ (0 : Int) ∧ 0 < (v142.size : Int) ∧
 br ((bt v142 0) == 126)
 (nilP x13 fun a143 =>
 nilP x17 fun a144 =>
 ∃ (v145 : BA), w140.cell? a143 = some (.string v145) ∧
 ∃ (v146 : BA), w140.cell? a144 = some (.string v146) ∧
 br ((v145.size : Int) != (v146.size : Int))
 (Xc x2q x2n x2c x4 x7 x8 x9 x10 x13 x15 (IntKind.i64.wrap (x16 - 1)) w140)
 (k5 R Xa Xb Xc x2q x2n x2c x4 x7 x8 x9 x10 x13 x15 x16 x17 w140))
 (k5 R Xa Xb Xc x2q x2n x2c x4 x7 x8 x9 x10 x13 x15 x16 x17 w140)

def bl3 (R : EP) (Xa : OA → Nat → Nat → Nat → Nat → Value → Value → Int → WP) (Xb : OA → Nat → Nat → Nat → Nat → Value → Value → Int → OA → OA → WP) (Xc : OA → Nat → Nat → Nat → Nat → Value → Value → Int → OA → OA → Int → WP) (x2q : OA) (x2n : Nat) (x2c : Nat) (x4 : Nat) (x7 : Nat) (x8 : Value) (x9 : Value) (x10 : Int) (x13 : OA) (x15 : OA) (x16 : Int) (w : World) : Prop :=
 br (decide (x16 ≥ 0))
 (nilP x15 fun a51 =>
 ∃ (v52q : OA), ∃ (v52n : Nat), ∃ (v52c : Nat), w.cell? a51 = some (.slice v52q v52n v52c) ∧
 0 ≤ x16 ∧ x16 < (v52n : Int) ∧
 nilP v52q fun a53 =>
 ∃ (v54 : OA), w.cell? (a53.add (Int.toNat x16 * 1)) = some (.pointer v54) ∧
 tk w fun w55 =>
 nilP x13 fun a56 =>
 ∃ (v57 : BA), w55.cell? a56 = some (.string v57) ∧
 0 ≤ (0 : Int) ∧ 0 < (v57.size : Int) ∧
 br ((bt v57 0) == 42)
 (nilP x13 fun a58 =>
 ∃ (v59 : Bool), w55.cell? (a58.add 1) = some (.bool v59) ∧
 br v59
 (nilP x13 fun a60 =>
 ∃ (v61 : Bool), w55.cell? (a60.add 2) = some (.bool v61) ∧
 br v61
 (nilP x13 fun a62 =>
 nilP v54 fun a63 =>
 ∃ (v64 : Int), w55.cell? (a62.add 4) = some (.int .i64 v64) ∧
 ∃ (v65 : Int), w55.cell? (a63.add 4) = some (.int .i64 v65) ∧
 (3 : Int) ≠ 0 ∧
 br ((Int.tmod (IntKind.i64.wrap (v64 + v65)) 3) == 0)
 (nilP x13 fun a66 =>
 ∃ (v67 : Int), w55.cell? (a66.add 4) = some (.int .i64 v67) ∧
 (3 : Int) ≠ 0 ∧
 br ((Int.tmod v67 3) != 0)
 (Xc x2q x2n x2c x4 x7 x8 x9 x10 x13 x15 (IntKind.i64.wrap (x16 - 1)) w55)
 (nilP v54 fun a68 =>
 ∃ (v69 : Int), w55.cell? (a68.add 4) = some (.int .i64 v69) ∧
 (3 : Int) ≠ 0 ∧
 br ((Int.tmod v69 3) != 0)
 (Xc x2q x2n x2c x4 x7 x8 x9 x10 x13 x15 (IntKind.i64.wrap (x16 - 1)) w55)
 (k3 R Xa Xb Xc x2q x2n x2c x4 x7 x8 x9 x10 x13 x15 x16 v54 w55)))
 (k3 R Xa Xb Xc x2q x2n x2c x4 x7 x8 x9 x10 x13 x15 x16 v54 w55))
 (nilP v54 fun a70 =>
 ∃ (v71 : Bool), w55.cell? (a70.add 1) = some (.bool v71) ∧
 br v71
 (nilP v54 fun a72 =>
 ∃ (v73 : Bool), w55.cell? (a72.add 2) = some (.bool v73) ∧
 br v73
 (nilP x13 fun a74 =>
 nilP v54 fun a75 =>
 ∃ (v76 : Int), w55.cell? (a74.add 4) = some (.int .i64 v76) ∧
 ∃ (v77 : Int), w55.cell? (a75.add 4) = some (.int .i64 v77) ∧
 (3 : Int) ≠ 0 ∧
 br ((Int.tmod (IntKind.i64.wrap (v76 + v77)) 3) == 0)
 (nilP x13 fun a78 =>
 ∃ (v79 : Int), w55.cell? (a78.add 4) = some (.int .i64 v79) ∧
 (3 : Int) ≠ 0 ∧
 br ((Int.tmod v79 3) != 0)
 (Xc x2q x2n x2c x4 x7 x8 x9 x10 x13 x15 (IntKind.i64.wrap (x16 - 1)) w55)
 (nilP v54 fun a80 =>
 ∃ (v81 : Int), w55.cell? (a80.add 4) = some (.int .i64 v81) ∧
 (3 : Int) ≠ 0 ∧
 br ((Int.tmod v81 3) != 0)
 (Xc x2q x2n x2c x4 x7 x8 x9 x10 x13 x15 (IntKind.i64.wrap (x16 - 1)) w55)
 (k3 R Xa Xb Xc x2q x2n x2c x4 x7 x8 x9 x10 x13 x15 x16 v54 w55)))
 (k3 R Xa Xb Xc x2q x2n x2c x4 x7 x8 x9 x10 x13 x15 x16 v54 w55))
 (k3 R Xa Xb Xc x2q x2n x2c x4 x7 x8 x9 x10 x13 x15 x16 v54 w55))
 (k3 R Xa Xb Xc x2q x2n x2c x4 x7 x8 x9 x10 x13 x15 x16 v54 w55)))
 (nilP v54 fun a82 =>
 ∃ (v83 : Bool), w55.cell? (a82.add 1) = some (.bool v83) ∧
 br v83
 (nilP v54 fun a84 =>
 ∃ (v85 : Bool), w55.cell? (a84.add 2) = some (.bool v85) ∧
 br v85
 (nilP x13 fun a86 =>
 nilP v54 fun a87 =>
 ∃ (v88 : Int), w55.cell? (a86.add 4) = some (.int .i64 v88) ∧
 ∃ (v89 : Int), w55.cell? (a87.add 4) = some (.int .i64 v89) ∧
 (3 : Int) ≠ 0 ∧
 br ((Int.tmod (IntKind.i64.wrap (v88 + v89)) 3) == 0)
 (nilP x13 fun a90 =>
 ∃ (v91 : Int), w55.cell? (a90.add 4) = some (.int .i64 v91) ∧
 (3 : Int) ≠ 0 ∧
 br ((Int.tmod v91 3) != 0)
 (Xc x2q x2n x2c x4 x7 x8 x9 x10 x13 x15 (IntKind.i64.wrap (x16 - 1)) w55)
 (nilP v54 fun a92 =>
 ∃ (v93 : Int), w55.cell? (a92.add 4) = some (.int .i64 v93) ∧
 (3 : Int) ≠ 0 ∧
 br ((Int.tmod v93 3) != 0)
 (Xc x2q x2n x2c x4 x7 x8 x9 x10 x13 x15 (IntKind.i64.wrap (x16 - 1)) w55)
 (k3 R Xa Xb Xc x2q x2n x2c x4 x7 x8 x9 x10 x13 x15 x16 v54 w55)))
 (k3 R Xa Xb Xc x2q x2n x2c x4 x7 x8 x9 x10 x13 x15 x16 v54 w55))
 (k3 R Xa Xb Xc x2q x2n x2c x4 x7 x8 x9 x10 x13 x15 x16 v54 w55))
 (k3 R Xa Xb Xc x2q x2n x2c x4 x7 x8 x9 x10 x13 x15 x16 v54 w55)))
 (nilP x13 fun a94 =>
 ∃ (v95 : BA), w55.cell? a94 = some (.string v95) ∧
 0 ≤ (0 : Int) ∧ 0 < (v95.size : Int) ∧
 br ((bt v95 0) == 95)
 (nilP x13 fun a96 =>
 ∃ (v97 : Bool), w55.cell? (a96.add 1) = some (.bool v97) ∧
 br v97
 (nilP x13 fun a98 =>
 ∃ (v99 : Bool), w55.cell? (a98.add 2) = some (.bool v99) ∧
 br v99
 (nilP x13 fun a100 =>
 nilP v54 fun a101 =>
 ∃ (v102 : Int), w55.cell? (a100.add 4) = some (.int .i64 v102) ∧
 ∃ (v103 : Int), w55.cell? (a101.add 4) = some (.int .i64 v103) ∧
 (3 : Int) ≠ 0 ∧
 br ((Int.tmod (IntKind.i64.wrap (v102 + v103)) 3) == 0)
 (nilP x13 fun a104 =>
 ∃ (v105 : Int), w55.cell? (a104.add 4) = some (.int .i64 v105) ∧
 (3 : Int) ≠ 0 ∧
 br ((Int.tmod v105 3) != 0)
 (Xc x2q x2n x2c x4 x7 x8 x9 x10 x13 x15 (IntKind.i64.wrap (x16 - 1)) w55)
 (nilP v54 fun a106 =>
 ∃ (v107 : Int), w55.cell? (a106.add 4) = some (.int .i64 v107) ∧
 (3 : Int) ≠ 0 ∧
 br ((Int.tmod v107 3) != 0)
 (Xc x2q x2n x2c x4 x7 x8 x9 x10 x13 x15 (IntKind.i64.wrap (x16 - 1)) w55)
 (k3 R Xa Xb Xc x2q x2n x2c x4 x7 x8 x9 x10 x13 x15 x16 v54 w55)))
 (k3 R Xa Xb Xc x2q x2n x2c x4 x7 x8 x9 x10 x13 x15 x16 v54 w55))
 (nilP v54 fun a108 =>
 ∃ (v109 : Bool), w55.cell? (a108.add 1) = some (.bool v109) ∧
 br v109
 (nilP v54 fun a110 =>
 ∃ (v111 : Bool), w55.cell? (a110.add 2) = some (.bool v111) ∧
 br v111
 (nilP x13 fun a112 =>
 nilP v54 fun a113 =>
 ∃ (v114 : Int), w55.cell? (a112.add 4) = some (.int .i64 v114) ∧
 ∃ (v115 : Int), w55.cell? (a113.add 4) = some (.int .i64 v115) ∧
 (3 : Int) ≠ 0 ∧
 br ((Int.tmod (IntKind.i64.wrap (v114 + v115)) 3) == 0)
 (nilP x13 fun a116 =>
 ∃ (v117 : Int), w55.cell? (a116.add 4) = some (.int .i64 v117) ∧
 (3 : Int) ≠ 0 ∧
 br ((Int.tmod v117 3) != 0)
 (Xc x2q x2n x2c x4 x7 x8 x9 x10 x13 x15 (IntKind.i64.wrap (x16 - 1)) w55)
 (nilP v54 fun a118 =>
 ∃ (v119 : Int), w55.cell? (a118.add 4) = some (.int .i64 v119) ∧
 (3 : Int) ≠ 0 ∧
 br ((Int.tmod v119 3) != 0)
 (Xc x2q x2n x2c x4 x7 x8 x9 x10 x13 x15 (IntKind.i64.wrap (x16 - 1)) w55)
 (k3 R Xa Xb Xc x2q x2n x2c x4 x7 x8 x9 x10 x13 x15 x16 v54 w55)))
 (k3 R Xa Xb Xc x2q x2n x2c x4 x7 x8 x9 x10 x13 x15 x16 v54 w55))
 (k3 R Xa Xb Xc x2q x2n x2c x4 x7 x8 x9 x10 x13 x15 x16 v54 w55))
 (k3 R Xa Xb Xc x2q x2n x2c x4 x7 x8 x9 x10 x13 x15 x16 v54 w55)))
 (nilP v54 fun a120 =>
 ∃ (v121 : Bool), w55.cell? (a120.add 1) = some (.bool v121) ∧
 br v121
 (nilP v54 fun a122 =>
 ∃ (v123 : Bool), w55.cell? (a122.add 2) = some (.bool v123) ∧
 br v123
 (nilP x13 fun a124 =>
 nilP v54 fun a125 =>
 ∃ (v126 : Int), w55.cell? (a124.add 4) = some (.int .i64 v126) ∧
 ∃ (v127 : Int), w55.cell? (a125.add 4) = some (.int .i64 v127) ∧
 (3 : Int) ≠ 0 ∧
 br ((Int.tmod (IntKind.i64.wrap (v126 + v127)) 3) == 0)
 (nilP x13 fun a128 =>
 ∃ (v129 : Int), w55.cell? (a128.add 4) = some (.int .i64 v129) ∧
 (3 : Int) ≠ 0 ∧
 br ((Int.tmod v129 3) != 0)
 (Xc x2q x2n x2c x4 x7 x8 x9 x10 x13 x15 (IntKind.i64.wrap (x16 - 1)) w55)
 (nilP v54 fun a130 =>
 ∃ (v131 : Int), w55.cell? (a130.add 4) = some (.int .i64 v131) ∧
 (3 : Int) ≠ 0 ∧
 br ((Int.tmod v131 3) != 0)
 (Xc x2q x2n x2c x4 x7 x8 x9 x10 x13 x15 (IntKind.i64.wrap (x16 - 1)) w55)
 (k3 R Xa Xb Xc x2q x2n x2c x4 x7 x8 x9 x10 x13 x15 x16 v54 w55)))
 (k3 R Xa Xb Xc x2q x2n x2c x4 x7 x8 x9 x10 x13 x15 x16 v54 w55))
 (k3 R Xa Xb Xc x2q x2n x2c x4 x7 x8 x9 x10 x13 x15 x16 v54 w55))
 (k3 R Xa Xb Xc x2q x2n x2c x4 x7 x8 x9 x10 x13 x15 x16 v54 w55)))
 (k3 R Xa Xb Xc x2q x2n x2c x4 x7 x8 x9 x10 x13 x15 x16 v54 w55)))
 (k1 R Xa x2q x2n x2c x4 x7 x8 x9 x10 x13 w)
def l3 (R : EP) (Xa : OA → Nat → Nat → Nat → Nat → Value → Value → Int → WP) (Xb : OA → Nat → Nat → Nat → Nat → Value → Value → Int → OA → OA → WP) (x2q : OA) (x2n : Nat) (x2c : Nat) (x4 : Nat) (x7 : Nat) (x8 : Value) (x9 : Value) (x10 : Int) (x13 : OA) (x15 : OA) (x16 : Int) (w : World) : Prop :=
  ∀ X : OA → Nat → Nat → Nat → Nat → Value → Value → Int → OA → OA → Int → WP, (∀ x2q x2n x2c x4 x7 x8 x9 x10 x13 x15 x16 w, bl3 R Xa Xb X x2q x2n x2c x4 x7 x8 x9 x10 x13 x15 x16 w → X x2q x2n x2c x4 x7 x8 x9 x10 x13 x15 x16 w) → X x2q x2n x2c x4 x7 x8 x9 x10 x13 x15 x16 w

noncomputable def al3 (R : EP) (Xa : OA → Nat → Nat → Nat → Nat → Value → Value → Int → WP) (Xb : OA → Nat → Nat → Nat → Nat → Value → Value → Int → OA → OA → WP) (Xc : OA → Nat → Nat → Nat → Nat → Value → Value → Int → OA → OA → Int → WP) : AC :=
  (.seq (.leaf (sel [1, 0, 1, 1, 1, 1, 0, 1, 0, 0, 1, 0, 0, 1, 1, 1, 0, 1, 0, 0, 1, 1, 0, 0, 1, 0, 0, 1, 0, 0, 0] body)) (.seq (.block 5 (.seq (.leaf (sel [1, 0, 1, 1, 1, 1, 0, 1, 0, 0, 1, 0, 0, 1, 1, 1, 0, 1, 0, 0, 1, 1, 0, 0, 1, 0, 0, 1, 0, 0, 1, 0, 0, 0] body)) (.seq (.seq (.draw (.pure 0 (.pure 1 (.pure 2 (.pure 3 (.load 4 (.pure 5 (.pure 6 (.pure 7 (.pure 8 (.pure 9 (.pure 10 (.pure 11 (.load 12 (.pure 13 (.pure 14 (.pure 15 (.pure 16 (.pure 17 (.pure 18 (.pure 19 (.load 20 (.pure 21 (.pure 22 (.pure 23 (.pure 24 (.load 25 (.pure 26 (.pure 27 (.pure 28 (.pure 29 (.pure 30 (.load 31 (.pure 32 (.pure 33 (.pure 34 (.pure 35 (.load 36 (.pure 37 (.pure 38 (.pure 39 (.pure 40 (.pure 41 (.pure 42 (.pure 43 (.pure 45 (.pure 46 (.pure 47 (.load 44 (.load 48 (.pure 49 (.pure 50 (.pure 51 (.pure 52 (.pure 53 (.pure 54 (.pure 55 (.pure 56 (.load 57 (.pure 58 (.pure 59 (.pure 60 (.pure 61 (.pure 62 (.pure 63 (.load 64 (.pure 65 (.pure 66 (.pure 67 (.pure 68 .done))))))))))))))))))))))))))))))))))))))))))))))))))))))))))))))))))))) (sel [1, 0, 1, 1, 1, 1, 0, 1, 0, 0, 1, 0, 0, 1, 1, 1, 0, 1, 0, 0, 1, 1, 0, 0, 1, 0, 0, 1, 0, 0, 1, 0, 0, 1, 0, 0] body)) (.leaf (sel [1, 0, 1, 1, 1, 1, 0, 1, 0, 0, 1, 0, 0, 1, 1, 1, 0, 1, 0, 0, 1, 1, 0, 0, 1, 0, 0, 1, 0, 0, 1, 0, 0, 1, 0, 1] body))) (.mark (leaf [(2, .s .slice), (4, .s .loc), (7, .s .loc), (8, .s .any), (9, .s .any), (10, .s (.int .i64)), (13, .s .ptr), (15, .s .ptr), (16, .s (.int .i64)), (17, .s .ptr)] (k3 R Xa Xb Xc)) (.seq (.seq (.draw (.pure 0 (.pure 1 (.pure 2 (.pure 3 (.load 4 (.pure 5 (.pure 6 (.pure 7 (.pure 8 (.pure 9 (.pure 10 (.pure 11 (.pure 14 (.pure 15 (.pure 16 (.pure 17 (.load 12 (.pure 13 (.load 18 (.pure 19 (.pure 20 (.pure 21 .done)))))))))))))))))))))) (sel [1, 0, 1, 1, 1, 1, 0, 1, 0, 0, 1, 0, 0, 1, 1, 1, 0, 1, 0, 0, 1, 1, 0, 0, 1, 0, 0, 1, 0, 0, 1, 0, 0, 1, 1, 0, 0] body)) (.leaf (sel [1, 0, 1, 1, 1, 1, 0, 1, 0, 0, 1, 0, 0, 1, 1, 1, 0, 1, 0, 0, 1, 1, 0, 0, 1, 0, 0, 1, 0, 0, 1, 0, 0, 1, 1, 0, 1] body))) (.mark (leaf [(2, .s .slice), (4, .s .loc), (7, .s .loc), (8, .s .any), (9, .s .any), (10, .s (.int .i64)), (13, .s .ptr), (15, .s .ptr), (16, .s (.int .i64)), (17, .s .ptr)] (k5 R Xa Xb Xc)) (.seq (.seq (.leaf (sel [1, 0, 1, 1, 1, 1, 0, 1, 0, 0, 1, 0, 0, 1, 1, 1, 0, 1, 0, 0, 1, 1, 0, 0, 1, 0, 0, 1, 0, 0, 1, 0, 0, 1, 1, 1, 0, 0] body)) (.cond 193 (.seq (.draw (.pure 1 (.pure 2 (.pure 3 (.load 0 (.load 4 (.pure 5 (.load 6 (.pure 7 (.pure 8 (.pure 9 (.pure 10 (.one 11 .done)))))))))))) (sel [1, 0, 1, 1, 1, 1, 0, 1, 0, 0, 1, 0, 0, 1, 1, 1, 0, 1, 0, 0, 1, 1, 0, 0, 1, 0, 0, 1, 0, 0, 1, 0, 0, 1, 1, 1, 0, 1, 0, 0] body)) (.leaf (sel [1, 0, 1, 1, 1, 1, 0, 1, 0, 0, 1, 0, 0, 1, 1, 1, 0, 1, 0, 0, 1, 1, 0, 0, 1, 0, 0, 1, 0, 0, 1, 0, 0, 1, 1, 1, 0, 1, 0, 1] body))) (.leaf (sel [1, 0, 1, 1, 1, 1, 0, 1, 0, 0, 1, 0, 0, 1, 1, 1, 0, 1, 0, 0, 1, 1, 0, 0, 1, 0, 0, 1, 0, 0, 1, 0, 0, 1, 1, 1, 0, 1, 1] body)))) (.seq (.seq (.leaf (sel [1, 0, 1, 1, 1, 1, 0, 1, 0, 0, 1, 0, 0, 1, 1, 1, 0, 1, 0, 0, 1, 1, 0, 0, 1, 0, 0, 1, 0, 0, 1, 0, 0, 1, 1, 1, 1, 0, 0] body)) (.cond 227 (.seq (.draw (.pure 1 (.pure 2 (.pure 3 (.load 0 (.load 4 (.pure 5 (.load 6 (.pure 7 (.pure 8 (.pure 9 (.pure 10 (.one 11 .done)))))))))))) (sel [1, 0, 1, 1, 1, 1, 0, 1, 0, 0, 1, 0, 0, 1, 1, 1, 0, 1, 0, 0, 1, 1, 0, 0, 1, 0, 0, 1, 0, 0, 1, 0, 0, 1, 1, 1, 1, 0, 1, 0, 0] body)) (.leaf (sel [1, 0, 1, 1, 1, 1, 0, 1, 0, 0, 1, 0, 0, 1, 1, 1, 0, 1, 0, 0, 1, 1, 0, 0, 1, 0, 0, 1, 0, 0, 1, 0, 0, 1, 1, 1, 1, 0, 1, 0, 1] body))) (.leaf (sel [1, 0, 1, 1, 1, 1, 0, 1, 0, 0, 1, 0, 0, 1, 1, 1, 0, 1, 0, 0, 1, 1, 0, 0, 1, 0, 0, 1, 0, 0, 1, 0, 0, 1, 1, 1, 1, 0, 1, 1] body)))) (.seq (.leaf (sel [1, 0, 1, 1, 1, 1, 0, 1, 0, 0, 1, 0, 0, 1, 1, 1, 0, 1, 0, 0, 1, 1, 0, 0, 1, 0, 0, 1, 0, 0, 1, 0, 0, 1, 1, 1, 1, 1, 0] body)) (.seq (.leaf (sel [1, 0, 1, 1, 1, 1, 0, 1, 0, 0, 1, 0, 0, 1, 1, 1, 0, 1, 0, 0, 1, 1, 0, 0, 1, 0, 0, 1, 0, 0, 1, 0, 0, 1, 1, 1, 1, 1, 1, 0] body)) (.mark (leaf [(2, .s .slice), (4, .s .loc), (7, .s .loc), (8, .s .any), (9, .s .any), (10, .s (.int .i64)), (13, .s .ptr), (15, .s .ptr), (17, .s .ptr), (18, .s (.int .i64))] (k6 R Xa Xb Xc)) (.seq (.leaf (sel [1, 0, 1, 1, 1, 1, 0, 1, 0, 0, 1, 0, 0, 1, 1, 1, 0, 1, 0, 0, 1, 1, 0, 0, 1, 0, 0, 1, 0, 0, 1, 0, 0, 1, 1, 1, 1, 1, 1, 1, 0] body)) (.seq (.draw (.pure 0 (.pure 1 (.pure 2 (.pure 3 (.pure 5 (.pure 8 (.pure 9 (.pure 10 (.load 4 (.pure 6 (.load 7 (.load 11 (.pure 12 (.pure 13 (.one 14 (.pure 15 (.one 16 (.pure 17 .done)))))))))))))))))) (sel [1, 0, 1, 1, 1, 1, 0, 1, 0, 0, 1, 0, 0, 1, 1, 1, 0, 1, 0, 0, 1, 1, 0, 0, 1, 0, 0, 1, 0, 0, 1, 0, 0, 1, 1, 1, 1, 1, 1, 1, 1, 0] body)) (.seq (.draw (.pure 0 (.pure 1 (.pure 2 (.pure 3 (.pure 4 (.pure 6 (.pure 7 (.pure 8 (.pure 9 (.pure 12 (.load 5 (.load 10 (.pure 11 (.pure 13 (.pure 14 (.pure 15 (.pure 16 (.pure 17 (.one 18 .done))))))))))))))))))) (sel [1, 0, 1, 1, 1, 1, 0, 1, 0, 0, 1, 0, 0, 1, 1, 1, 0, 1, 0, 0, 1, 1, 0, 0, 1, 0, 0, 1, 0, 0, 1, 0, 0, 1, 1, 1, 1, 1, 1, 1, 1, 1, 0] body)) (.seq (.leaf (sel [1, 0, 1, 1, 1, 1, 0, 1, 0, 0, 1, 0, 0, 1, 1, 1, 0, 1, 0, 0, 1, 1, 0, 0, 1, 0, 0, 1, 0, 0, 1, 0, 0, 1, 1, 1, 1, 1, 1, 1, 1, 1, 1, 0] body)) (.seq (.seq (.leaf (sel [1, 0, 1, 1, 1, 1, 0, 1, 0, 0, 1, 0, 0, 1, 1, 1, 0, 1, 0, 0, 1, 1, 0, 0, 1, 0, 0, 1, 0, 0, 1, 0, 0, 1, 1, 1, 1, 1, 1, 1, 1, 1, 1, 1, 0, 0] body)) (.cond 329 (.draw (.pure 1 (.pure 2 (.pure 3 (.load 0 (.load 4 (.pure 5 (.one 6 .done))))))) (sel [1, 0, 1, 1, 1, 1, 0, 1, 0, 0, 1, 0, 0, 1, 1, 1, 0, 1, 0, 0, 1, 1, 0, 0, 1, 0, 0, 1, 0, 0, 1, 0, 0, 1, 1, 1, 1, 1, 1, 1, 1, 1, 1, 1, 0, 1, 0] body)) (.draw (.pure 1 (.pure 2 (.pure 3 (.load 0 (.load 4 (.pure 5 (.pure 6 (.one 7 .done)))))))) (sel [1, 0, 1, 1, 1, 1, 0, 1, 0, 0, 1, 0, 0, 1, 1, 1, 0, 1, 0, 0, 1, 1, 0, 0, 1, 0, 0, 1, 0, 0, 1, 0, 0, 1, 1, 1, 1, 1, 1, 1, 1, 1, 1, 1, 0, 1, 1] body)))) (.mark (leaf [(2, .s .slice), (4, .s .loc), (7, .s .loc), (8, .s .any), (9, .s .any), (10, .s (.int .i64)), (13, .s .ptr), (15, .s .ptr), (18, .s (.int .i64)), (19, .s .bool), (20, .s .ptr)] (k7 R Xa Xb Xc)) (.leaf (sel [1, 0, 1, 1, 1, 1, 0, 1, 0, 0, 1, 0, 0, 1, 1, 1, 0, 1, 0, 0, 1, 1, 0, 0, 1, 0, 0, 1, 0, 0, 1, 0, 0, 1, 1, 1, 1, 1, 1, 1, 1, 1, 1, 1, 1] body))))))))))))))))))) (.leaf (sel [1, 0, 1, 1, 1, 1, 0, 1, 0, 0, 1, 0, 0, 1, 1, 1, 0, 1, 0, 0, 1, 1, 0, 0, 1, 0, 0, 1, 0, 0, 1, 1] body))))
def bl2 (R : EP) (Xa : OA → Nat → Nat → Nat → Nat → Value → Value → Int → WP) (Xb : OA → Nat → Nat → Nat → Nat → Value → Value → Int → OA → OA → WP) (x2q : OA) (x2n : Nat) (x2c : Nat) (x4 : Nat) (x7 : Nat) (x8 : Value) (x9 : Value) (x10 : Int) (x13 : OA) (x15 : OA) (w : World) : Prop :=
 nilP x13 fun a37 =>
 ∃ (v38 : BA), w.cell? a37 = some (.string v38) ∧
 br (!(v38.toList == (ByteArray.mk #[]).toList))
 (nilP x15 fun a39 =>
 ∃ (v40q : OA), ∃ (v40n : Nat), ∃ (v40c : Nat), w.cell? a39 = some (.slice v40q v40n v40c) ∧
 l3 R Xa Xb x2q x2n x2c x4 x7 x8 x9 x10 x13 x15 (IntKind.i64.wrap ((v40n : Int) - 1)) w)
 (k1 R Xa x2q x2n x2c x4 x7 x8 x9 x10 x13 w)
def l2 (R : EP) (Xa : OA → Nat → Nat → Nat → Nat → Value → Value → Int → WP) (x2q : OA) (x2n : Nat) (x2c : Nat) (x4 : Nat) (x7 : Nat) (x8 : Value) (x9 : Value) (x10 : Int) (x13 : OA) (x15 : OA) (w : World) : Prop :=
  ∀ X : OA → Nat → Nat → Nat → Nat → Value → Value → Int → OA → OA → WP, (∀ x2q x2n x2c x4 x7 x8 x9 x10 x13 x15 w, bl2 R Xa X x2q x2n x2c x4 x7 x8 x9 x10 x13 x15 w → X x2q x2n x2c x4 x7 x8 x9 x10 x13 x15 w) → X x2q x2n x2c x4 x7 x8 x9 x10 x13 x15 w

noncomputable def al2 (R : EP) (Xa : OA → Nat → Nat → Nat → Nat → Value → Value → Int → WP) (Xb : OA → Nat → Nat → Nat → Nat → Value → Value → Int → OA → OA → WP) : AC :=
  (.seq (.leaf (sel [1, 0, 1, 1, 1, 1, 0, 1, 0, 0, 1, 0, 0, 1, 1, 1, 0, 1, 0, 0, 1, 1, 0, 0, 0] body)) (.block 3 (.seq (.seq (.leaf (sel [1, 0, 1, 1, 1, 1, 0, 1, 0, 0, 1, 0, 0, 1, 1, 1, 0, 1, 0, 0, 1, 1, 0, 0, 1, 0, 0, 0] body)) (.block 4 (.loop (leaf [(2, .s .slice), (4, .s .loc), (7, .s .loc), (8, .s .any), (9, .s .any), (10, .s (.int .i64)), (13, .s .ptr), (15, .s .ptr), (16, .s (.int .i64))] (l3 R Xa Xb)) (sel [1, 0, 1, 1, 1, 1, 0, 1, 0, 0, 1, 0, 0, 1, 1, 1, 0, 1, 0, 0, 1, 1, 0, 0, 1, 0, 0, 1, 0, 0] body)))) (.leaf (sel [1, 0, 1, 1, 1, 1, 0, 1, 0, 0, 1, 0, 0, 1, 1, 1, 0, 1, 0, 0, 1, 1, 0, 0, 1, 0, 1] body)))))
def bl1 (R : EP) (Xa : OA → Nat → Nat → Nat → Nat → Value → Value → Int → WP) (x2q : OA) (x2n : Nat) (x2c : Nat) (x4 : Nat) (x7 : Nat) (x8 : Value) (x9 : Value) (x10 : Int) (w : World) : Prop :=
 br (decide (x10 < (x2n : Int)))
 (0 ≤ x10 ∧ x10 < (x2n : Int) ∧
 nilP x2q fun a5 =>
 ∃ (v6 : Value), w.cell? (a5.add (Int.toNat x10 * 1)) = some v6 ∧
 ∃ (r7_0 : OA), ∃ (r7_1 : Bool), ∃ w8, (Instr.typeAssert v6 ty_Inline ty_P_openPlain true).run P w = .ok (.tuple #[.pointer r7_0, .bool r7_1]) w8 ∧
 br r7_1
 (tk w8 fun w9 =>
 nilP r7_0 fun a10 =>
 ∃ (v11q : OA), ∃ (v11n : Nat), ∃ (v11c : Nat), w9.cell? ⟨x4, 0, none⟩ = some (.slice v11q v11n v11c) ∧
 ∃ (r12q : OA), ∃ (r12n : Nat), ∃ (r12c : Nat), ∃ w13, (Instr.buildSlice ty_S_Inline 1 #[(0, .iface ty_P_Plain (.pointer (some a10)))]).run P w9 = .ok (.slice r12q r12n r12c) w13 ∧
 SameC w9 w13 ⟨x4, 0, none⟩ 1 ∧
 ∃ (r14q : OA), ∃ (r14n : Nat), ∃ (r14c : Nat), ∃ w15, (Builtin.append_ #[ty_S_Inline, ty_S_Inline] ty_S_Inline #[.slice v11q v11n v11c, .slice r12q r12n r12c]).run P w13 = .ok (.slice r14q r14n r14c) w15 ∧
 stV w15 ⟨x4, 0, none⟩ (.slice r14q r14n r14c) fun w16 =>
 Xa x2q x2n x2c x4 x7 x8 x9 (IntKind.i64.wrap (x10 + 1)) w16)
 (0 ≤ x10 ∧ x10 < (x2n : Int) ∧
 nilP x2q fun a17 =>
 ∃ (v18 : Value), w8.cell? (a17.add (Int.toNat x10 * 1)) = some v18 ∧
 ∃ (r19_0 : OA), ∃ (r19_1 : Bool), ∃ w20, (Instr.typeAssert v18 ty_Inline ty_P_emphPlain true).run P w8 = .ok (.tuple #[.pointer r19_0, .bool r19_1]) w20 ∧
 br (!r19_1)
 (tk w20 fun w21 =>
 0 ≤ x10 ∧ x10 < (x2n : Int) ∧
 nilP x2q fun a22 =>
 ∃ (v23q : OA), ∃ (v23n : Nat), ∃ (v23c : Nat), w21.cell? ⟨x4, 0, none⟩ = some (.slice v23q v23n v23c) ∧
 ∃ (v24 : Value), w21.cell? (a22.add (Int.toNat x10 * 1)) = some v24 ∧
 ∃ (r25q : OA), ∃ (r25n : Nat), ∃ (r25c : Nat), ∃ w26, (Instr.buildSlice ty_S_Inline 1 #[(0, v24)]).run P w21 = .ok (.slice r25q r25n r25c) w26 ∧
 SameC w21 w26 ⟨x4, 0, none⟩ 1 ∧
 ∃ (r27q : OA), ∃ (r27n : Nat), ∃ (r27c : Nat), ∃ w28, (Builtin.append_ #[ty_S_Inline, ty_S_Inline] ty_S_Inline #[.slice v23q v23n v23c, .slice r25q r25n r25c]).run P w26 = .ok (.slice r27q r27n r27c) w28 ∧
 stV w28 ⟨x4, 0, none⟩ (.slice r27q r27n r27c) fun w29 =>
 Xa x2q x2n x2c x4 x7 x8 x9 (IntKind.i64.wrap (x10 + 1)) w29)
 (nilP r19_0 fun a30 =>
 ∃ (v31 : Bool), w20.cell? (a30.add 2) = some (.bool v31) ∧
 br v31
 (nilP r19_0 fun a32 =>
 ∃ (v33 : BA), w20.cell? a32 = some (.string v33) ∧
 0 ≤ (0 : Int) ∧ 0 < (v33.size : Int) ∧
 enterE P (do let d ← Deferred.ofValue x8 #[.int .u8 (bt v33 0)]; invoke d.target d.args) (fun e w35 => ∃ (r34 : Int), e = .returned (.int .i64 r34) ∧
 0 ≤ r34 ∧ r34 < (5 : Int) ∧
 l2 R Xa x2q x2n x2c x4 x7 x8 x9 x10 r19_0 (some ((⟨x7, 0, none⟩ : Addr).add (Int.toNat r34 * 1))) w35) w20)
 (k1 R Xa x2q x2n x2c x4 x7 x8 x9 x10 r19_0 w20))))
 (∃ (v36q : OA), ∃ (v36n : Nat), ∃ (v36c : Nat), w.cell? ⟨x4, 0, none⟩ = some (.slice v36q v36n v36c) ∧
 R (.returned (.slice v36q v36n v36c)) w)
def l1 (R : EP) (x2q : OA) (x2n : Nat) (x2c : Nat) (x4 : Nat) (x7 : Nat) (x8 : Value) (x9 : Value) (x10 : Int) (w : World) : Prop :=
  ∀ X : OA → Nat → Nat → Nat → Nat → Value → Value → Int → WP, (∀ x2q x2n x2c x4 x7 x8 x9 x10 w, bl1 R X x2q x2n x2c x4 x7 x8 x9 x10 w → X x2q x2n x2c x4 x7 x8 x9 x10 w) → X x2q x2n x2c x4 x7 x8 x9 x10 w

noncomputable def al1 (R : EP) (Xa : OA → Nat → Nat → Nat → Nat → Value → Value → Int → WP) : AC :=
  (.seq (.leaf (sel [1, 0, 1, 1, 1, 1, 0, 1, 0, 0, 0] body)) (.seq (.block 1 (.seq (.seq (.leaf (sel [1, 0, 1, 1, 1, 1, 0, 1, 0, 0, 1, 0, 0, 0, 0] body)) (.seq (.leaf (sel [1, 0, 1, 1, 1, 1, 0, 1, 0, 0, 1, 0, 0, 0, 1, 0] body)) (.cond 37 (.seq (.draw (.pure 1 (.pure 2 (.pure 3 (.pure 4 (.load 0 (.one 5 (.one 6 (.one 7 .done)))))))) (sel [1, 0, 1, 1, 1, 1, 0, 1, 0, 0, 1, 0, 0, 0, 1, 1, 0, 0] body)) (.leaf (sel [1, 0, 1, 1, 1, 1, 0, 1, 0, 0, 1, 0, 0, 0, 1, 1, 0, 1] body))) (.leaf (sel [1, 0, 1, 1, 1, 1, 0, 1, 0, 0, 1, 0, 0, 0, 1, 1, 1] body))))) (.seq (.leaf (sel [1, 0, 1, 1, 1, 1, 0, 1, 0, 0, 1, 0, 0, 1, 0] body)) (.seq (.seq (.leaf (sel [1, 0, 1, 1, 1, 1, 0, 1, 0, 0, 1, 0, 0, 1, 1, 0, 0] body)) (.cond 54 (.seq (.draw (.pure 1 (.pure 2 (.pure 3 (.load 0 (.load 4 (.one 5 (.one 6 (.one 7 .done)))))))) (sel [1, 0, 1, 1, 1, 1, 0, 1, 0, 0, 1, 0, 0, 1, 1, 0, 1, 0, 0] body)) (.leaf (sel [1, 0, 1, 1, 1, 1, 0, 1, 0, 0, 1, 0, 0, 1, 1, 0, 1, 0, 1] body))) (.leaf (sel [1, 0, 1, 1, 1, 1, 0, 1, 0, 0, 1, 0, 0, 1, 1, 0, 1, 1] body)))) (.seq (.seq (.leaf (sel [1, 0, 1, 1, 1, 1, 0, 1, 0, 0, 1, 0, 0, 1, 1, 1, 0, 0] body)) (.cond 65 (.scope (.seq (.leaf (sel [1, 0, 1, 1, 1, 1, 0, 1, 0, 0, 1, 0, 0, 1, 1, 1, 0, 1, 0, 0, 0] body)) (.seq (.leaf (sel [1, 0, 1, 1, 1, 1, 0, 1, 0, 0, 1, 0, 0, 1, 1, 1, 0, 1, 0, 0, 1, 0] body)) (.block 2 (.loop (leaf [(2, .s .slice), (4, .s .loc), (7, .s .loc), (8, .s .any), (9, .s .any), (10, .s (.int .i64)), (13, .s .ptr), (15, .s .ptr)] (l2 R Xa)) (sel [1, 0, 1, 1, 1, 1, 0, 1, 0, 0, 1, 0, 0, 1, 1, 1, 0, 1, 0, 0, 1, 1, 0, 0] body)))))) (.leaf (sel [1, 0, 1, 1, 1, 1, 0, 1, 0, 0, 1, 0, 0, 1, 1, 1, 0, 1, 1] body)))) (.mark (leaf [(2, .s .slice), (4, .s .loc), (7, .s .loc), (8, .s .any), (9, .s .any), (10, .s (.int .i64)), (13, .s .ptr)] (k1 R Xa)) (.seq (.leaf (sel [1, 0, 1, 1, 1, 1, 0, 1, 0, 0, 1, 0, 0, 1, 1, 1, 1, 0] body)) (.cond 368 (.seq (.leaf (sel [1, 0, 1, 1, 1, 1, 0, 1, 0, 0, 1, 0, 0, 1, 1, 1, 1, 1, 0, 0] body)) (.seq (.leaf (sel [1, 0, 1, 1, 1, 1, 0, 1, 0, 0, 1, 0, 0, 1, 1, 1, 1, 1, 0, 1, 0] body)) (.mark (leaf [(2, .s .slice), (4, .s .loc), (7, .s .loc), (8, .s .any), (9, .s .any), (10, .s (.int .i64)), (13, .s .ptr), (21, .s .ptr)] (k2 R Xa)) (.seq (.leaf (sel [1, 0, 1, 1, 1, 1, 0, 1, 0, 0, 1, 0, 0, 1, 1, 1, 1, 1, 0, 1, 1, 0] body)) (.mark (leaf [(2, .s .slice), (4, .s .loc), (7, .s .loc), (8, .s .any), (9, .s .any), (10, .s (.int .i64)), (13, .s .ptr), (21, .s .ptr)] (k4 R Xa)) (.seq (.leaf (sel [1, 0, 1, 1, 1, 1, 0, 1, 0, 0, 1, 0, 0, 1, 1, 1, 1, 1, 0, 1, 1, 1, 0] body)) (.cond 409 (.leaf (sel [1, 0, 1, 1, 1, 1, 0, 1, 0, 0, 1, 0, 0, 1, 1, 1, 1, 1, 0, 1, 1, 1, 1, 0] body)) (.draw (.pure 1 (.pure 2 (.pure 3 (.pure 4 (.load 0 (.one 5 (.one 6 (.one 7 .done)))))))) (sel [1, 0, 1, 1, 1, 1, 0, 1, 0, 0, 1, 0, 0, 1, 1, 1, 1, 1, 0, 1, 1, 1, 1, 1] body))))))))) (.leaf (sel [1, 0, 1, 1, 1, 1, 0, 1, 0, 0, 1, 0, 0, 1, 1, 1, 1, 1, 1] body)))))))))) (.leaf (sel [1, 0, 1, 1, 1, 1, 0, 1, 0, 0, 1, 1] body))))
end g_parseState_emph
def g_parseState_emph (R : EP) (x0 : OA) (x1q : OA) (x1n : Nat) (x1c : Nat) (x2q : OA) (x2n : Nat) (x2c : Nat) (w : World) : Prop :=
 box w #[.slice x1q x1n x1c] ty_S_Inline fun b1 w2 =>
 box w2 #[.slice none 0 0, .slice none 0 0, .slice none 0 0, .slice none 0 0, .slice none 0 0] ty_5_S_P_emphPlain fun b3 w4 =>
 g_parseState_emph.l1 R x2q x2n x2c b1 b3 (.func (.func i_parseState_emph_1) #[] #[]) (.func (.func i_parseState_emph_2) #[] #[.pointer (some ⟨b3, 0, none⟩), .pointer (some ⟨b1, 0, none⟩)]) 0 w4

noncomputable def g_parseState_emph.ac (R : EP) : AC :=
  (.seq (.leaf (sel [0] g_parseState_emph.body)) (.scope (.seq (.leaf (sel [1, 0, 0] g_parseState_emph.body)) (.seq (.leaf (sel [1, 0, 1, 0] g_parseState_emph.body)) (.seq (.leaf (sel [1, 0, 1, 1, 0] g_parseState_emph.body)) (.seq (.leaf (sel [1, 0, 1, 1, 1, 0] g_parseState_emph.body)) (.seq (.seq (.leaf (sel [1, 0, 1, 1, 1, 1, 0, 0] g_parseState_emph.body)) (.block 0 (.loop (leaf [(2, .s .slice), (4, .s .loc), (7, .s .loc), (8, .s .any), (9, .s .any), (10, .s (.int .i64))] (g_parseState_emph.l1 R)) (sel [1, 0, 1, 1, 1, 1, 0, 1, 0, 0] g_parseState_emph.body)))) (.leaf (sel [1, 0, 1, 1, 1, 1, 1] g_parseState_emph.body)))))))))
theorem g_parseState_emph.good (R : EP) : Good P 436 (g_parseState_emph.ac R) (QF P [.tmp 6] R) :=
  ⟨trivial, ⟨trivial, ⟨trivial, ⟨trivial, ⟨trivial, ⟨⟨trivial, (loopG (g_parseState_emph.al1 R) (g_parseState_emph.bl1 R) (fun _ => by kernel_rfl) (fun Xa => ⟨trivial, ⟨⟨⟨trivial, ⟨trivial, ⟨⟨⟨by kernel_rfl, by kernel_rfl, fun _ _ _ h => h⟩, trivial⟩, trivial⟩⟩⟩, ⟨trivial, ⟨⟨trivial, ⟨⟨⟨by kernel_rfl, by kernel_rfl, fun _ _ _ h => h⟩, trivial⟩, trivial⟩⟩, ⟨⟨trivial, ⟨⟨trivial, ⟨trivial, (loopG (g_parseState_emph.al2 R Xa) (g_parseState_emph.bl2 R Xa) (fun _ => by kernel_rfl) (fun Xb => ⟨trivial, ⟨⟨trivial, (loopG (g_parseState_emph.al3 R Xa Xb) (g_parseState_emph.bl3 R Xa Xb) (fun _ => by kernel_rfl) (fun Xc => ⟨trivial, ⟨⟨trivial, ⟨⟨⟨by kernel_rfl, by kernel_rfl, fun _ _ _ h => h⟩, trivial⟩, ⟨⟨⟨⟨by kernel_rfl, by kernel_rfl, fun _ _ _ h => h⟩, trivial⟩, ⟨⟨⟨trivial, ⟨⟨⟨by kernel_rfl, by kernel_rfl, fun _ _ _ h => h⟩, trivial⟩, trivial⟩⟩, ⟨⟨trivial, ⟨⟨⟨by kernel_rfl, by kernel_rfl, fun _ _ _ h => h⟩, trivial⟩, trivial⟩⟩, ⟨trivial, ⟨trivial, ⟨⟨trivial, ⟨⟨by kernel_rfl, by kernel_rfl, fun _ _ _ h => h⟩, ⟨⟨by kernel_rfl, by kernel_rfl, fun _ _ _ h => h⟩, ⟨trivial, ⟨⟨trivial, ⟨⟨by kernel_rfl, by kernel_rfl, fun _ _ _ h => h⟩, ⟨by kernel_rfl, by kernel_rfl, fun _ _ _ h => h⟩⟩⟩, ⟨trivial, cutE (by intro x2q x2n x2c x4 x7 x8 x9 x10 x13 x15 x18 x19 x20 ρ w; kernel_rfl)⟩⟩⟩⟩⟩⟩, cutE (by intro x2q x2n x2c x4 x7 x8 x9 x10 x13 x15 x17 x18 ρ w; kernel_rfl)⟩⟩⟩⟩⟩, cutE (by intro x2q x2n x2c x4 x7 x8 x9 x10 x13 x15 x16 x17 ρ w; kernel_rfl)⟩⟩, cutE (by intro x2q x2n x2c x4 x7 x8 x9 x10 x13 x15 x16 x17 ρ w; kernel_rfl)⟩⟩⟩, trivial⟩⟩) (fun Xc => by intro x2q x2n x2c x4 x7 x8 x9 x10 x13 x15 x16 ρ w; kernel_rfl) (fun X h _ _ _ _ _ _ _ _ _ _ _ _ g => g X h))⟩, trivial⟩⟩) (fun Xb => by intro x2q x2n x2c x4 x7 x8 x9 x10 x13 x15 ρ w; kernel_rfl) (fun X h _ _ _ _ _ _ _ _ _ _ _ g => g X h))⟩⟩, trivial⟩⟩, ⟨⟨trivial, ⟨⟨trivial, ⟨trivial, ⟨⟨trivial, ⟨⟨trivial, ⟨trivial, ⟨by kernel_rfl, by kernel_rfl, fun _ _ _ h => h⟩⟩⟩, cutE (by intro x2q x2n x2c x4 x7 x8 x9 x10 x13 x21 ρ w; kernel_rfl)⟩⟩, cutE (by intro x2q x2n x2c x4 x7 x8 x9 x10 x13 x21 ρ w; kernel_rfl)⟩⟩⟩, trivial⟩⟩, cutE (by intro x2q x2n x2c x4 x7 x8 x9 x10 x13 ρ w; kernel_rfl)⟩⟩⟩⟩⟩, trivial⟩⟩) (fun Xa => by intro x2q x2n x2c x4 x7 x8 x9 x10 ρ w; kernel_rfl) (fun X h _ _ _ _ _ _ _ _ _ g => g X h))⟩, trivial⟩⟩⟩⟩⟩⟩
theorem g_parseState_emph.eq (R : EP) (x0 : OA) (x1q : OA) (x1n : Nat) (x1c : Nat) (x2q : OA) (x2n : Nat) (x2c : Nat) (w : World) : g_parseState_emph R x0 x1q x1n x1c x2q x2n x2c w = vcA P 436 (g_parseState_emph.ac R) (QF P [.tmp 6] R) (fr0 [.pointer x0, .slice x1q x1n x1c, .slice x2q x2n x2c]) w := by kernel_rfl
theorem g_parseState_emph.sound {R : EP} {x0 : OA} {x1q : OA} {x1n : Nat} {x1c : Nat} {x2q : OA} {x2n : Nat} {x2c : Nat} {w : World} (h : g_parseState_emph R x0 x1q x1n x1c x2q x2n x2c w) : callE P i_parseState_emph #[.pointer x0, .slice x1q x1n x1c, .slice x2q x2n x2c] R w :=
  callE_fin (c := g_parseState_emph.body) Tryz.func57 Tryz.call57 (by kernel_rfl) (by kernel_rfl) (by kernel_rfl) (by kernel_rfl) (by kernel_rfl) (g_parseState_emph.good R) (g_parseState_emph.eq R x0 x1q x1n x1c x2q x2n x2c w) h
end Go.Proofs.YtihmcipajjakgaaGreatDoor

set_option linter.unusedVariables false
namespace Go.Proofs.YtihmcipajjakgaaGreatDoor
open Go.Proofs Go.IntWalk Go.RowKit
variable {σ : Out} {w : World} {L L' : List Chunk} {R : Ending → World → Prop}
theorem und_open : P.underlying ty_P_openPlain = some (.pointer ty_openPlain) := by kernel_rfl
theorem und_emph : P.underlying ty_P_emphPlain = some (.pointer ty_emphPlain) := by kernel_rfl
theorem und_plain : P.underlying ty_P_Plain = some (.pointer ty_Plain) := by kernel_rfl
theorem ta_open_no {t : TypeId} {v : Value} (ht : t ≠ ty_P_openPlain) (w : World) : (Instr.typeAssert (.iface t v) ty_Inline ty_P_openPlain true).run P w = .ok (.tuple #[.pointer none, .bool false]) w :=
  ta_no (by rw [und_open]; intro ms h; cases h) und_open ht (i := (P.info? ty_P_openPlain).getD default) (by kernel_rfl) (by kernel_rfl) w
theorem ta_emph_no {t : TypeId} {v : Value} (ht : t ≠ ty_P_emphPlain) (w : World) : (Instr.typeAssert (.iface t v) ty_Inline ty_P_emphPlain true).run P w = .ok (.tuple #[.pointer none, .bool false]) w :=
  ta_no (by rw [und_emph]; intro ms h; cases h) und_emph ht (i := (P.info? ty_P_emphPlain).getD default) (by kernel_rfl) (by kernel_rfl) w
theorem ta_plain_no {t : TypeId} {v : Value} (ht : t ≠ ty_P_Plain) (w : World) : (Instr.typeAssert (.iface t v) ty_Inline ty_P_Plain true).run P w = .ok (.tuple #[.pointer none, .bool false]) w :=
  ta_no (by rw [und_plain]; intro ms h; cases h) und_plain ht (i := (P.info? ty_P_Plain).getD default) (by kernel_rfl) (by kernel_rfl) w
theorem ta_open_yes {v : Value} (w : World) : (Instr.typeAssert (.iface ty_P_openPlain v) ty_Inline ty_P_openPlain true).run P w = .ok (.tuple #[v, .bool true]) w :=
  ta_yes (by rw [und_open]; intro ms h; cases h) und_open w
theorem ta_emph_yes {v : Value} (w : World) : (Instr.typeAssert (.iface ty_P_emphPlain v) ty_Inline ty_P_emphPlain true).run P w = .ok (.tuple #[v, .bool true]) w :=
  ta_yes (by rw [und_emph]; intro ms h; cases h) und_emph w
theorem ta_plain_yes {v : Value} (w : World) : (Instr.typeAssert (.iface ty_P_Plain v) ty_Inline ty_P_Plain true).run P w = .ok (.tuple #[v, .bool true]) w :=
  ta_yes (by rw [und_plain]; intro ms h; cases h) und_plain w
theorem fillI (t : TypeId) (q : Option Addr) : Instr.fill (fun i => some (i * 1, 1)) ((Array.range (1 * 1)).map (rowInl.z.cells[· % rowInl.z.cells.size]!)) [(0, .iface t (.pointer q))] = some #[.iface t (.pointer q)] := by kernel_rfl

theorem Sl.loadAt {q : Option Addr} {n c j : Nat} {e : TypeId} {vs : List Value} {RM : List Chunk} {v : Value} {K : Addr → Prop} (hS : Sl 1 e q n c vs RM) (h : Sat σ w (RM ++ L)) (hj : vs[j]? = some v)
    (hK : ∀ b, q = some ⟨b, 0, none⟩ → w.cell? ⟨b, j, none⟩ = some v → K ⟨b, 0, none⟩) : nilP q K := by
  obtain ⟨hl, _, ⟨rfl, rfl, _, _⟩ | ⟨rb, sp, rfl, rfl, _⟩⟩ := hS
  · have := (List.getElem?_eq_some_iff.1 hj).1; omega
  · refine nilP_some (hK rb rfl (h.ld (.head _) ?_))
    rw [List.getElem?_append_left (List.getElem?_eq_some_iff.1 hj).1]; exact hj

theorem emph_none_ok {pq q : Option Addr} {n c : Nat} {vs : List Value} {ts : List Inl} {RM EM : List Chunk} (hS : Sl 1 ty_Inline q n c vs RM) (hI : InlsAt ts vs EM) (hno : ∀ t ∈ ts, t.ty ≠ ty_P_openPlain ∧ t.ty ≠ ty_P_emphPlain) (hn : n < 4611686018427387904)
    (h : Sat σ w (RM ++ (EM ++ L))) (hR : ∀ w, Sat σ w (RM ++ (EM ++ L)) → R (.returned (.slice q n c)) w) : callE P i_parseState_emph #[.pointer pq, .slice q 0 c, .slice q n c] R w := by
  refine g_parseState_emph.sound ?_
  refine Sat.bx h fun b1 w h => ?_
  refine Sat.bx h fun b3 w h => ?_
  intro X hX
  have hl := hS.1
  have hlen := hI.length
  have hcell : ∀ (j : Nat) (hj : j < n), ∃ t b, t ≠ ty_P_openPlain ∧ t ≠ ty_P_emphPlain ∧ vs[j]? = some (ptrV t b) := by
    intro j hj
    have hj2 : j < ts.length := by omega
    have hsp : ts = ts.take j ++ (ts[j] :: ts.drop (j + 1)) := by rw [← List.drop_eq_getElem_cons hj2, List.take_append_drop]
    rw [hsp] at hI
    obtain ⟨vs1, vs2, M1, M2, rfl, rfl, h1, h2⟩ := hI.split
    obtain ⟨v, vs', N1, N2, rfl, rfl, h3, h4⟩ := h2
    obtain ⟨b, cs, e, M', rfl, rfl⟩ := h3.ptr
    have := h1.length
    rw [List.length_take, Nat.min_eq_left (by omega)] at this
    exact ⟨_, b, (hno _ (List.getElem_mem hj2)).1, (hno _ (List.getElem_mem hj2)).2, by rw [List.getElem?_append_right (by omega), this]; simp⟩
  have key : ∀ k j w, j + k = n → Sat σ w ((b3, cel [.slice none 0 0, .slice none 0 0, .slice none 0 0, .slice none 0 0, .slice none 0 0] ty_5_S_P_emphPlain) :: (b1, cel [.slice q j c] ty_S_Inline) :: (RM ++ (EM ++ L))) →
      X q n c b1 b3 (.func (.func i_parseState_emph_1) #[] #[]) (.func (.func i_parseState_emph_2) #[] #[.pointer (some ⟨b3, 0, none⟩), .pointer (some ⟨b1, 0, none⟩)]) (j : Int) w := by
    intro k
    induction k with
    | zero =>
      intro j w hj h
      refine hX _ _ _ _ _ _ _ _ _ (br_false (by simp; omega) ?_)
      refine ⟨_, _, _, h.ldA, ?_⟩
      rw [show j = n by omega]
      exact hR w h.tail.tail
    | succ k ih =>
      intro j w hj h
      obtain ⟨t, pb, h1, h2, h3⟩ := hcell j (by omega)
      refine hX _ _ _ _ _ _ _ _ _ (br_true (by simp; omega) ⟨by omega, by omega, ?_⟩)
      have hS0 := hS
      obtain ⟨_, hnc, ⟨rfl, rfl, _, _⟩ | ⟨rb, sp, rfl, rfl, hsp⟩⟩ := hS
      · omega
      refine nilP_some ?_
      simp only [Addr.add_lit, Int.toNat_natCast, Nat.mul_one, Nat.zero_add]
      have hg : (vs ++ sp)[j]? = some (ptrV t pb) := by rw [List.getElem?_append_left (by omega)]; exact h3
      refine ⟨_, Sat.ld h (.tail _ (.tail _ (.head _))) hg, _, _, _, ta_open_no h1 w, br_false rfl ?_⟩
      refine ⟨by omega, by omega, nilP_some ?_⟩
      simp only [Addr.add_lit, Int.toNat_natCast, Nat.mul_one, Nat.zero_add]
      refine ⟨_, Sat.ld h (.tail _ (.tail _ (.head _))) hg, _, _, _, ta_emph_no h2 w, br_true rfl ?_⟩
      refine h.tk fun w h => ?_
      refine ⟨by omega, by omega, nilP_some ?_⟩
      refine ⟨_, _, _, h.ldA, ?_⟩
      simp only [Addr.add_lit, Int.toNat_natCast, Nat.mul_one, Nat.zero_add]
      refine ⟨_, Sat.ld h (.tail _ (.tail _ (.head _))) hg, ?_⟩
      have h0 := h
      have h : Sat σ w ((rb, cel (vs ++ sp) ty_Inline) :: (b1, cel [.slice (some ⟨rb, 0, none⟩) j c] ty_S_Inline) :: (b3, cel [.slice none 0 0, .slice none 0 0, .slice none 0 0, .slice none 0 0, .slice none 0 0] ty_5_S_P_emphPlain) :: (EM ++ L)) := h.re (by intro _; simp only [List.append_eq, cnt_append, cnt_cons, cnt_nil] <;> omega)
      refine appRoom rowInl h (v := ptrV t pb) (by rw [List.length_append]; omega) (by omega) rfl rfl (fillI t _) (C := fun w1 => SameC _ w1 _ 1) (fun w1 X h' => h0.same h' (.tail _ (.head _)) (.tail _ (.tail _ (.head _))) 1) fun w h => ?_
      rw [show (vs ++ sp).set j (ptrV t pb) = vs ++ sp from by
        apply List.ext_getElem?; intro i; rw [List.getElem?_set]; split
        · rename_i hi; subst hi; rw [if_pos (by rw [List.length_append]; omega), hg]
        · rfl] at h
      refine h.stA 1 fun w h => ?_
      rw [i64_inc (by omega)]
      refine ih (j + 1) w (by omega) ?_
      have h : Sat σ w ((rb, cel (vs ++ sp) ty_Inline) :: (b1, cel [.slice (some ⟨rb, 0, none⟩) (j + 1) c] ty_S_Inline) :: (b3, cel [.slice none 0 0, .slice none 0 0, .slice none 0 0, .slice none 0 0, .slice none 0 0] ty_5_S_P_emphPlain) :: (EM ++ L)) := h
      exact h.re (by intro _; simp only [List.append_eq, cnt_append, cnt_cons, cnt_nil] <;> omega)
  exact key n 0 w (by omega) h
end Go.Proofs.YtihmcipajjakgaaGreatDoor


set_option linter.unusedVariables false
namespace Go.Proofs.YtihmcipajjakgaaGreatDoor
open Go.Proofs Go.IntWalk Go.RowKit
variable {σ : Out} {w : World} {L L' : List Chunk} {R : Ending → World → Prop}
def Inl.plain? : Inl → Option (List UInt8)
  | .plain s => some s
  | .openP s _ => some s
  | .emphP s _ _ _ _ => some s
  | _ => none
theorem toPlain_yes {t : Inl} {v : Value} {M : List Chunk} {s : List UInt8} (hI : InlAt t v M) (hs : t.plain? = some s) (hR : ∀ b cs e, M = [(b, cel (.string (bs s) :: cs) e)] → R (.returned (.pointer (some ⟨b, 0, none⟩))) w) : callE P i_toPlain #[v] R w := by
  refine g_toPlain.sound ?_
  cases t <;> simp only [Inl.plain?, Option.some.injEq, reduceCtorEq] at hs <;> subst hs
  · obtain ⟨b, cs, e, rfl, rfl⟩ := hI
    exact ⟨_, _, _, ta_plain_yes w, br_true rfl (hR b _ _ rfl)⟩
  · obtain ⟨b, e, rfl, rfl⟩ := hI
    exact ⟨_, _, _, ta_plain_no (by decide) w, br_false rfl ⟨_, _, _, ta_emph_no (by decide) w, br_false rfl ⟨_, _, _, ta_open_yes w, br_true rfl (nilP_some (hR b _ _ rfl))⟩⟩⟩
  · obtain ⟨b, e, rfl, rfl⟩ := hI
    exact ⟨_, _, _, ta_plain_no (by decide) w, br_false rfl ⟨_, _, _, ta_emph_yes w, br_true rfl (nilP_some (hR b _ _ rfl))⟩⟩
theorem Inl.not_plain {t : Inl} (h : t.plain? = none) : t.ty ≠ ty_P_Plain ∧ t.ty ≠ ty_P_openPlain ∧ t.ty ≠ ty_P_emphPlain := by
  cases t <;> simp only [Inl.plain?, reduceCtorEq] at h <;> (simp only [Inl.ty]; decide)
theorem toPlain_no {t : Inl} {v : Value} {M : List Chunk} (hI : InlAt t v M) (hs : t.plain? = none) (hR : R (.returned (.pointer none)) w) : callE P i_toPlain #[v] R w := by
  refine g_toPlain.sound ?_
  obtain ⟨h1, h2, h3⟩ := Inl.not_plain hs
  obtain ⟨b, cs, e, M', rfl, _⟩ := hI.ptr
  exact ⟨_, _, _, ta_plain_no h1 w, br_false rfl ⟨_, _, _, ta_emph_no h3 w, br_false rfl ⟨_, _, _, ta_open_no h2 w, br_false rfl hR⟩⟩⟩

theorem joinL_nil : ∀ us : List (List UInt8), joinL [] us = us.flatten
  | [] => rfl
  | u :: us => by simp [joinL, List.flatten_cons, List.flatMap_id']
theorem InlsAt.mid {a : List Inl} {t : Inl} {b : List Inl} {vs : List Value} {M : List Chunk} (h : InlsAt (a ++ t :: b) vs M) : ∃ vs1 v vs2 M1 M2 M3, vs = vs1 ++ v :: vs2 ∧ M = M1 ++ (M2 ++ M3) ∧ InlsAt a vs1 M1 ∧ InlAt t v M2 ∧ InlsAt b vs2 M3 := by
  obtain ⟨vs1, vs2, M1, M2, rfl, rfl, h1, h2⟩ := h.split
  obtain ⟨v, vs', N1, N2, rfl, rfl, h3, h4⟩ := h2
  exact ⟨vs1, v, vs', M1, N1, N2, rfl, rfl, h1, h3, h4⟩
theorem fillS (t : List UInt8) : Instr.fill (fun i => some (i * 1, 1)) ((Array.range (1 * 1)).map (rowStr.z.cells[· % rowStr.z.cells.size]!)) [(0, .string (bs t))] = some #[.string (bs t)] := by kernel_rfl

theorem mergePlain1_ok {rb s m c : Nat} {cs : List Value} {e : TypeId} {vs : List Value} {ts : List Inl} {us : List (List UInt8)} {EM : List Chunk} (hI : InlsAt ts vs EM) (hu : ts.map Inl.plain? = us.map some) (hm : vs.length = m) (h1 : 1 ≤ m) (hmb : m < 1073741824)
    (hcs : ∀ j (hj : j < m), cs[s + j]? = vs[j]?) (hpos : 0 < us.flatten.length) (hb : us.flatten.length < 1073741824) (h : Sat σ w ((rb, cel cs e) :: (EM ++ L)))
    (hR : ∀ w b EM', InlAt (.plain us.flatten) (ptrV ty_P_Plain b) EM' → Sat σ w ((rb, cel cs e) :: (EM' ++ L)) → R (.returned (.pointer (some ⟨b, 0, none⟩))) w) :
    callE P i_mergePlain1 #[.slice (some ⟨rb, s, none⟩) m c] R w := by
  have hlt := hI.length
  have hul : us.length = ts.length := by have := congrArg List.length hu; simpa using this.symm
  refine g_mergePlain1.sound ?_
  have get : ∀ j, j < m → ∃ t v a b M1 M2 M3 u, ts = a ++ t :: b ∧ EM = M1 ++ (M2 ++ M3) ∧ InlAt t v M2 ∧ t.plain? = some u ∧ us[j]? = some u ∧ cs[s + j]? = some v ∧ a.length = j := by
    intro j hj
    have hjt : j < ts.length := by omega
    have hsp : ts = ts.take j ++ (ts[j] :: ts.drop (j + 1)) := by rw [← List.drop_eq_getElem_cons hjt, List.take_append_drop]
    have hju : j < us.length := by omega
    have hp : ts[j].plain? = some us[j] := by
      have := congrArg (fun l => l[j]?) hu
      simpa [hjt, hju] using this
    have hI' := hI
    rw [hsp] at hI'
    obtain ⟨vs1, v, vs2, M1, M2, M3, rfl, rfl, h1, h2, h3⟩ := hI'.mid
    have hl1 := h1.length
    rw [List.length_take, Nat.min_eq_left (by omega)] at hl1
    refine ⟨ts[j], v, ts.take j, ts.drop (j + 1), M1, M2, M3, us[j], hsp, rfl, h2, hp, List.getElem?_eq_getElem hju, ?_, ?_⟩
    · rw [hcs j hj, List.getElem?_append_right (by omega), hl1]; simp
    · rw [List.length_take]; omega
  by_cases hm1 : m = 1
  · refine br_true (by simp [hm1]) ⟨by omega, by omega, nilP_some ?_⟩
    obtain ⟨t, v, a, b, M1, M2, M3, u, rfl, rfl, h2, hp, hu0, hc0, ha⟩ := get 0 (by omega)
    have hb0 : b = [] := by
      simp only [List.length_append, List.length_cons, ha] at hlt
      exact List.eq_nil_of_length_eq_zero (by omega)
    have ha0 : a = [] := List.eq_nil_of_length_eq_zero ha
    subst hb0 ha0
    obtain ⟨us0, rfl⟩ : ∃ x, us = [x] := by
      simp at hul
      match us, hul with
      | [x], _ => exact ⟨x, rfl⟩
    obtain rfl : us0 = u := by simpa using hu0
    simp only [Addr.add_lit, Int.toNat_zero, Nat.zero_mul, Nat.add_zero]
    refine ⟨v, Sat.ld h (.head _) hc0, ?_⟩
    refine toPlain_yes h2 hp fun bb ccs ee hM => ⟨_, rfl, ?_⟩
    refine hR w bb M2 ?_ ?_
    · rw [hM]; exact ⟨bb, ccs, ee, rfl, by simp⟩
    · exact h.less (M1 ++ M3) (by intro _; simp only [List.append_eq, cnt_append, cnt_cons, cnt_nil] <;> omega)
  · refine br_false (by simp; omega) ?_
    intro X hX
    have key : ∀ k j (q : Option Addr) (n c' : Nat) AM w, j + k = m → Sl 1 ty_string q n c' (sv (us.take j)) AM → Sat σ w (AM ++ ((rb, cel cs e) :: (EM ++ L))) → X q n c' (some ⟨rb, s, none⟩) m c (m : Int) (j : Int) w := by
      intro k
      induction k with
      | zero =>
        intro j q n c' AM w hj hS h
        refine hX _ _ _ _ _ _ _ _ _ (br_false (by simp; omega) ?_)
        rw [List.take_of_length_le (by omega)] at hS
        cases us with
        | nil => simp at hul; omega
        | cons u us =>
          have hn := hS.1
          rw [sv_length] at hn
          simp at hul hn
          have hjl := joinL_nil (u :: us)
          refine join_ok (sep := []) hS h (by omega) (by omega) (by simp) (by rw [hjl]; exact hpos) (by rw [hjl]; exact hb) fun w h => ⟨_, rfl, ?_⟩
          rw [hjl]
          refine Sat.bx h fun pb w h => ?_
          refine hR w pb [(pb, cel [.string (bs (u :: us).flatten)] ty_Plain)] ⟨pb, [], _, rfl, rfl⟩ ?_
          exact h.less (AM ++ EM) (by intro _; simp only [List.append_eq, cnt_append, cnt_cons, cnt_nil] <;> omega)
      | succ k ih =>
        intro j q n c' AM w hj hS h
        have hjm : j < m := by omega
        have hju : j < us.length := by omega
        refine hX _ _ _ _ _ _ _ _ _ (br_true (by simp; omega) ⟨by omega, by omega, nilP_some ?_⟩)
        obtain ⟨t, v, a, b, M1, M2, M3, u, rfl, rfl, h2, hp, hu0, hc0, ha⟩ := get j hjm
        simp only [Addr.add_lit, Int.toNat_natCast, Nat.mul_one]
        refine ⟨v, Sat.ld h (List.mem_append_right _ (.head _)) hc0, ?_⟩
        refine toPlain_yes h2 hp fun bb ccs ee hM => ⟨_, rfl, nilP_some ?_⟩
        subst hM
        refine ⟨_, Sat.ld h (List.mem_append_right _ (.tail _ (List.mem_append_left _ (List.mem_append_right _ (.head _))))) rfl, ?_⟩
        have hn := hS.1
        rw [sv_length, List.length_take] at hn
        refine Sat.app1 rowStr hS h (v := .string (bs u)) rfl (by simp [Value.cells, Value.oneCell']) (fillS u) (by omega) (by omega) (by decide) fun q' c'' w' M' hS' h => ?_
        rw [i64_inc (by omega)]
        refine ih (j + 1) q' (n + 1) c'' M' w' (by omega) ?_ h
        have e : sv (us.take (j + 1)) = sv (us.take j) ++ [.string (bs u)] := by
          rw [List.take_succ_eq_append_getElem hju]
          have : us[j] = u := by rw [List.getElem?_eq_getElem hju] at hu0; exact Option.some.inj hu0
          simp [sv, this]
        rw [e]; exact hS'
    exact key m 0 none 0 0 [] w (by omega) (Sl.nil 1 ty_string) h
end Go.Proofs.YtihmcipajjakgaaGreatDoor


set_option linter.unusedVariables false
namespace Go.Proofs.YtihmcipajjakgaaGreatDoor
open Go.Proofs Go.IntWalk Go.RowKit
variable {σ : Out} {w : World} {L L' : List Chunk} {R : Ending → World → Prop}
def flushP (p : List (List UInt8)) : List Inl := if p = [] then [] else [.plain p.flatten]
def mergeGo : List (List UInt8) → List Inl → List Inl
  | p, [] => flushP p
  | p, t :: ts => match t.plain? with
    | some s => mergeGo (p ++ [s]) ts
    | none => flushP p ++ t :: mergeGo [] ts
def mergeM (ts : List Inl) : List Inl := mergeGo [] ts
def plen : List Inl → Nat
  | [] => 0
  | t :: ts => (match t.plain? with | some s => s.length | none => 0) + plen ts
theorem set_mid {α : Type} {A B C : List α} {v : α} (hB : B ≠ []) : (A ++ (B ++ C)).set A.length v = (A ++ [v]) ++ (B.drop 1 ++ C) := by
  cases B with
  | nil => exact absurd rfl hB
  | cons x B => simp [List.set_append_right]
theorem fillP (v : Value) (hv : ∃ t b, v = ptrV t b) : Instr.fill (fun i => some (i * 1, 1)) ((Array.range (1 * 1)).map (rowInl.z.cells[· % rowInl.z.cells.size]!)) [(0, v)] = some v.cells := by
  obtain ⟨t, b, rfl⟩ := hv
  exact fillI t _
theorem und_PP : P.underlying ty_P_Plain = some (.pointer ty_Plain) := und_plain

theorem mergePlain_ok {pq q : Option Addr} {n c : Nat} {vs : List Value} {ts : List Inl} {RM EM : List Chunk} (hS : Sl 1 ty_Inline q n c vs RM) (hI : InlsAt ts vs EM) (hpos : ∀ t ∈ ts, ∀ s, t.plain? = some s → s ≠ []) (hb : plen ts < 1073741824) (hn : n < 1073741823)
    (h : Sat σ w (RM ++ (EM ++ L)))
    (hR : ∀ w n' vs' RM' EM', Sl 1 ty_Inline q n' c vs' RM' → n' ≤ n → InlsAt (mergeM ts) vs' EM' → Sat σ w (RM' ++ (EM' ++ L)) → R (.returned (.slice q n' c)) w) : callE P i_parseState_mergePlain #[.pointer pq, .slice q n c] R w := by
  have hl := hS.1
  have hnc := hS.2.1
  have htl := hI.length
  refine g_parseState_mergePlain.sound ?_
  refine ⟨_, _, _, _, sliceT rowInl.ht rowInl.hi q n c 0 (by omega) w, ?_⟩
  intro X hX
  obtain ⟨_, _, ⟨rfl, rfl, rfl, rfl⟩ | ⟨rb, sp, rfl, rfl, hsp⟩⟩ := hS
  · have hts : ts = [] := List.eq_nil_of_length_eq_zero (by omega)
    subst hts
    refine hX _ _ _ _ _ _ _ _ _ (br_false rfl ?_)
    refine br_false rfl (br_true rfl ?_)
    exact hR w 0 [] [] [] (Sl.nil 1 ty_Inline) (by omega) ⟨rfl, rfl⟩ (h.sub (by rw [List.nil_append]; exact List.sublist_append_right _ _))
  have hlen0 : vs.length = n := by omega
  have key : ∀ (rts : List Inl) (pts : List Inl) (us : List (List UInt8)) (ots : List Inl) (ovs junk pvs rvs : List Value) (OM PM RM : List Chunk) w,
      InlsAt ots ovs OM → InlsAt pts pvs PM → InlsAt rts rvs RM → pts.map Inl.plain? = us.map some → (∀ u ∈ us, u ≠ []) → (∀ t ∈ rts, ∀ s, t.plain? = some s → s ≠ []) → us.flatten.length + plen rts < 1073741824 →
      ovs.length + junk.length + pvs.length + rvs.length = n → mergeM ts = ots ++ mergeGo us rts →
      Sat σ w ((rb, cel (ovs ++ (junk ++ (pvs ++ (rvs ++ sp)))) ty_Inline) :: (OM ++ (PM ++ (RM ++ L)))) →
      X (some ⟨rb, 0, none⟩) n c (some ⟨rb, 0, none⟩) ovs.length c ((ovs.length + junk.length : Nat) : Int) ((ovs.length + junk.length + pvs.length : Nat) : Int) w := by
    intro rts
    induction rts with
    | nil =>
      intro pts us ots ovs junk pvs rvs OM PM RM w hO hP hRt hu hune hrne hbb hlen hm h
      obtain ⟨rfl, rfl⟩ := hRt
      have hpl := hP.length
      have hul : us.length = pts.length := by have := congrArg List.length hu; simpa using this.symm
      simp only [List.length_nil, Nat.add_zero] at hlen
      refine hX _ _ _ _ _ _ _ _ _ (br_false (by simp; omega) ?_)
      by_cases hp0 : pvs = []
      · subst hp0
        have hpts : pts = [] := by cases pts with
          | nil => rfl
          | cons _ _ => simp at hpl
        subst hpts
        have hus : us = [] := by cases us with
          | nil => rfl
          | cons _ _ => simp at hul
        subst hus
        obtain ⟨_, rfl⟩ := hP
        refine br_false (by simp) (br_true (by simp at hlen ⊢; omega) ?_)
        refine hR w ovs.length ovs [(rb, cel (ovs ++ (junk ++ sp)) ty_Inline)] OM ⟨by omega, by omega, .inr ⟨rb, junk ++ sp, rfl, rfl, ?_⟩⟩ (by omega) ?_ ?_
        · simp only [List.length_append] at hsp ⊢; simp at hlen; omega
        · rw [hm]; simpa [mergeGo, flushP] using hO
        · simp only [List.nil_append] at h; exact h.re (by intro _; simp only [List.append_eq, cnt_append, cnt_cons, cnt_nil] <;> omega)
      · have hpos1 : 0 < pvs.length := List.length_pos_iff.2 hp0
        refine br_true (by simp; omega) ?_
        refine ⟨_, _, _, _, sliceLH rowInl.ht rowInl.hi _ n c _ _ (by omega) (by omega) w, ?_⟩
        rw [if_neg (by omega), rowInl.hs]
        simp only [Option.map_some, Addr.add_lit, Nat.zero_add, Nat.mul_one]
        have hune0 : us ≠ [] := by intro h0; subst h0; simp at hul; omega
        have hfl : 0 < us.flatten.length := by
          cases us with
          | nil => exact absurd rfl hune0
          | cons u us =>
            have := List.length_pos_iff.2 (hune u (.head _))
            simp only [List.flatten_cons, List.length_append]; omega
        have h : Sat σ w ((rb, cel (ovs ++ (junk ++ (pvs ++ ([] ++ sp)))) ty_Inline) :: (PM ++ (OM ++ L))) := h.re (by intro _; simp only [List.append_eq, cnt_append, cnt_cons, cnt_nil] <;> omega)
        refine mergePlain1_ok (us := us) hP hu (by omega) (by omega) (by omega) ?_ hfl (by simp only [plen] at hbb; omega) h fun w nb EM' hN h => ⟨_, rfl, ?_⟩
        · intro j hj
          rw [List.getElem?_append_right (by omega), List.getElem?_append_right (by omega), List.getElem?_append_left (by omega)]
          congr 1; omega
        have h : Sat σ w ((rb, cel (ovs ++ ((junk ++ pvs) ++ sp)) ty_Inline) :: (EM' ++ (OM ++ L))) := by
          have e : ovs ++ (junk ++ (pvs ++ ([] ++ sp))) = ovs ++ ((junk ++ pvs) ++ sp) := by simp
          rw [← e]; exact h
        refine appRoom' rowInl h (v := ptrV ty_P_Plain nb) (by simp; omega) (by omega) rfl rfl (fillI _ _) fun w h => ?_
        rw [set_mid (by simp [hp0])] at h
        refine br_true (by simp; omega) ?_
        refine hR w (ovs.length + 1) (ovs ++ [ptrV ty_P_Plain nb]) [(rb, cel ((ovs ++ [ptrV ty_P_Plain nb]) ++ ((junk ++ pvs).drop 1 ++ sp)) ty_Inline)] (OM ++ EM') ⟨by simp, by omega, .inr ⟨rb, _, rfl, rfl, ?_⟩⟩ (by omega) ?_ ?_
        · simp only [List.length_append, List.length_drop, List.length_singleton] at hsp ⊢; omega
        · rw [hm]
          simp only [mergeGo, flushP, if_neg hune0]
          exact hO.append (InlsAt.one hN)
        · exact h.re (by intro _; simp only [List.append_eq, cnt_append, cnt_cons, cnt_nil] <;> omega)
    | cons t rts ih =>
      intro pts us ots ovs junk pvs rvs OM PM RM w hO hP hRt hu hune hrne hbb hlen hm h
      have hpl := hP.length
      have hul : us.length = pts.length := by have := congrArg List.length hu; simpa using this.symm
      obtain ⟨v, rvs', M1, M2, rfl, rfl, hv, hrest⟩ := hRt
      simp only [List.length_cons] at hlen
      refine hX _ _ _ _ _ _ _ _ _ (br_true (by simp; omega) ⟨by omega, by omega, nilP_some ?_⟩)
      simp only [Addr.add_lit, Int.toNat_natCast, Nat.mul_one, Nat.zero_add]
      have hg : (ovs ++ (junk ++ (pvs ++ (v :: rvs' ++ sp))))[ovs.length + junk.length + pvs.length]? = some v := by
        rw [List.getElem?_append_right (by omega), List.getElem?_append_right (by omega), List.getElem?_append_right (by omega)]
        rw [show ovs.length + junk.length + pvs.length - ovs.length - junk.length - pvs.length = 0 by omega]
        rfl
      refine ⟨v, Sat.ld h (.head _) hg, ?_⟩
      cases hpt : t.plain? with
      | some u =>
        refine toPlain_yes hv hpt fun bb ccs ee hM => ⟨_, rfl, ?_⟩
        refine ⟨_, _, neq_ptr_nil und_PP _ w, br_true rfl ?_⟩
        rw [i64_inc (by omega)]
        have := ih (pts ++ [t]) (us ++ [u]) ots ovs junk (pvs ++ [v]) rvs' OM (PM ++ M1) M2 w hO (hP.append (InlsAt.one hv)) hrest (by simp [hu, hpt])
          (by intro x hx; rcases List.mem_append.1 hx with hx | hx
              · exact hune x hx
              · simp at hx; subst hx; exact hrne t (.head _) _ hpt)
          (fun t' ht' => hrne t' (.tail _ ht')) (by simp only [plen, hpt] at hbb; simp only [List.flatten_append, List.flatten_cons, List.flatten_nil, List.length_append, List.append_nil]; omega) (by simp; omega) (by rw [hm, mergeGo, hpt]) ?_
        · simp only [List.length_append, List.length_singleton, ← Nat.add_assoc] at this
          exact this
        · have e : ovs ++ (junk ++ (pvs ++ [v] ++ (rvs' ++ sp))) = ovs ++ (junk ++ (pvs ++ (v :: rvs' ++ sp))) := by simp
          rw [e]; exact h.re (by intro _; simp only [List.append_eq, cnt_append, cnt_cons, cnt_nil] <;> omega)
      | none =>
        refine toPlain_no hv hpt ⟨_, rfl, ?_⟩
        refine ⟨_, _, neq_ptr_nil und_PP _ w, br_false rfl ?_⟩
        have hvp : ∃ t b, v = ptrV t b := by obtain ⟨b, _, _, _, h, _⟩ := hv.ptr; exact ⟨_, b, h⟩
        have hv1 : v.cells = #[v] ∧ v.oneCell' = true := by obtain ⟨t, b, rfl⟩ := hvp; exact ⟨rfl, rfl⟩
        have fin : ∀ (ots' : List Inl) (ovs' junk' : List Value) (OM' : List Chunk) w, InlsAt ots' ovs' OM' → mergeM ts = ots' ++ t :: mergeGo [] rts → ovs'.length + junk'.length = ovs.length + junk.length + pvs.length →
            Sat σ w ((rb, cel (ovs' ++ (junk' ++ (v :: rvs' ++ sp))) ty_Inline) :: (OM' ++ (M1 ++ (M2 ++ L)))) →
            g_parseState_mergePlain.k2 R X (some ⟨rb, 0, none⟩) n c (some ⟨rb, 0, none⟩) ovs'.length c ((ovs.length + junk.length + pvs.length : Nat) : Int) w := by
          intro ots' ovs' junk' OM' w hO' hm' hl' h
          refine br_false (by simp; omega) ⟨by omega, by omega, nilP_some ?_⟩
          simp only [Addr.add_lit, Int.toNat_natCast, Nat.mul_one, Nat.zero_add]
          have hg : (ovs' ++ (junk' ++ (v :: rvs' ++ sp)))[ovs.length + junk.length + pvs.length]? = some v := by
            rw [List.getElem?_append_right (by omega), List.getElem?_append_right (by omega)]
            rw [show ovs.length + junk.length + pvs.length - ovs'.length - junk'.length = 0 by omega]
            rfl
          refine ⟨v, Sat.ld h (.head _) hg, ?_⟩
          have e : ovs' ++ (junk' ++ (v :: rvs' ++ sp)) = ovs' ++ ((junk' ++ [v]) ++ (rvs' ++ sp)) := by simp
          rw [e] at h
          refine appRoom' rowInl h (v := v) (by simp; omega) (by omega) hv1.1 hv1.2 (fillP v hvp) fun w h => ?_
          rw [set_mid (by simp)] at h
          have e1 : IntKind.i64.wrap (((ovs.length + junk.length + pvs.length : Nat) : Int) + 1) = ((ovs.length + junk.length + pvs.length + 1 : Nat) : Int) := i64_inc (by omega)
          rw [e1]
          have := ih [] [] (ots' ++ [t]) (ovs' ++ [v]) ((junk' ++ [v]).drop 1) [] rvs' (OM' ++ M1) [] M2 w (hO'.append (InlsAt.one hv)) ⟨rfl, rfl⟩ hrest rfl (by simp) (fun t' ht' => hrne t' (.tail _ ht')) (by simp only [plen, hpt] at hbb; simp; omega)
            (by simp; omega) (by rw [hm']; simp) ?_
          · simp only [List.length_append, List.length_singleton, List.length_drop, List.length_nil, Nat.add_zero] at this
            have e2 : ovs'.length + 1 + (junk'.length + 1 - 1) = ovs.length + junk.length + pvs.length + 1 := by omega
            rw [e2] at this
            exact this
          · rw [List.nil_append]
            exact h.re (by intro _; simp only [List.append_eq, cnt_append, cnt_cons, cnt_nil] <;> omega)
        by_cases hp0 : pvs = []
        · subst hp0
          have hpts : pts = [] := by cases pts with
            | nil => rfl
            | cons _ _ => simp at hpl
          subst hpts
          have hus : us = [] := by cases us with
            | nil => rfl
            | cons _ _ => simp at hul
          subst hus
          obtain ⟨_, rfl⟩ := hP
          refine br_false (by simp) ?_
          refine fin ots ovs junk OM w hO (by rw [hm, mergeGo, hpt]; rfl) (by simp) ?_
          simp only [List.nil_append] at h
          exact h.re (by intro _; simp only [List.append_eq, cnt_append, cnt_cons, cnt_nil] <;> omega)
        · have hpos1 : 0 < pvs.length := List.length_pos_iff.2 hp0
          refine br_true (by simp; omega) ?_
          refine ⟨_, _, _, _, sliceLH rowInl.ht rowInl.hi _ n c _ _ (by omega) (by omega) w, ?_⟩
          rw [if_neg (by omega), rowInl.hs]
          simp only [Option.map_some, Addr.add_lit, Nat.zero_add, Nat.mul_one]
          have hune0 : us ≠ [] := by intro h0; subst h0; simp at hul; omega
          have hfl : 0 < us.flatten.length := by
            cases us with
            | nil => exact absurd rfl hune0
            | cons u us =>
              have := List.length_pos_iff.2 (hune u (.head _))
              simp only [List.flatten_cons, List.length_append]; omega
          have h : Sat σ w ((rb, cel (ovs ++ (junk ++ (pvs ++ (v :: rvs' ++ sp)))) ty_Inline) :: (PM ++ (OM ++ (M1 ++ (M2 ++ L))))) := h.re (by intro _; simp only [List.append_eq, cnt_append, cnt_cons, cnt_nil] <;> omega)
          refine mergePlain1_ok (us := us) hP hu (by omega) (by omega) (by omega) ?_ hfl (by simp only [plen] at hbb; omega) h fun w nb EM' hN h => ⟨_, rfl, ?_⟩
          · intro j hj
            rw [List.getElem?_append_right (by omega), List.getElem?_append_right (by omega), List.getElem?_append_left (by omega)]
            congr 1; omega
          have h : Sat σ w ((rb, cel (ovs ++ ((junk ++ pvs) ++ (v :: rvs' ++ sp))) ty_Inline) :: (EM' ++ (OM ++ (M1 ++ (M2 ++ L))))) := by
            have e : ovs ++ (junk ++ (pvs ++ (v :: rvs' ++ sp))) = ovs ++ ((junk ++ pvs) ++ (v :: rvs' ++ sp)) := by simp
            rw [← e]; exact h
          refine appRoom' rowInl h (v := ptrV ty_P_Plain nb) (by simp; omega) (by omega) rfl rfl (fillI _ _) fun w h => ?_
          rw [set_mid (by simp [hp0])] at h
          have := fin (ots ++ [.plain us.flatten]) (ovs ++ [ptrV ty_P_Plain nb]) ((junk ++ pvs).drop 1) (OM ++ EM') w (hO.append (InlsAt.one hN)) (by rw [hm, mergeGo, hpt]; simp [flushP, hune0]) (by simp; omega) (h.re (by intro _; simp only [List.append_eq, cnt_append, cnt_cons, cnt_nil] <;> omega))
          simp only [List.length_append, List.length_singleton] at this
          exact this
  have := key ts [] [] [] [] [] [] vs [] [] EM w ⟨rfl, rfl⟩ ⟨rfl, rfl⟩ hI rfl (by simp) hpos (by simpa using hb) (by simpa using hlen0) rfl (by simp only [List.nil_append]; exact h.re (by intro _; simp only [List.append_eq, cnt_append, cnt_cons, cnt_nil] <;> omega))
  exact this
end Go.Proofs.YtihmcipajjakgaaGreatDoor


set_option linter.unusedVariables false
namespace Go.Proofs.YtihmcipajjakgaaGreatDoor
open Go.Proofs Go.IntWalk Go.RowKit
variable {σ : Out} {w : World} {L L' : List Chunk} {R : Ending → World → Prop}
inductive PK where
  | nil
  | fn (f : FuncId)
  | code
def parserOf (o : Opt) (c : UInt8) : PK :=
  if c = 92 then .fn i_parseEscape else if c = 96 then .code else if c = 60 then .fn i_parseAutoLinkOrHTML else if c = 91 then .fn i_parseLinkOpen else if c = 33 then .fn i_parseImageOpen
  else if c = 95 ∨ c = 42 then .fn i_parseEmph else if c = 46 then (if o.dot then .fn i_parseDot else .nil) else if c = 45 then (if o.dash then .fn i_parseDash else .nil)
  else if c = 34 ∨ c = 39 then (if o.quote then .fn i_parseEmph else .nil) else if c = 126 then (if o.strike then .fn i_parseEmph else .nil) else if c = 10 then .fn i_parseBreak
  else if c = 38 then .fn i_parseHTMLEntity else if c = 58 then (if o.emoji then .fn i_parseEmoji else .nil) else .nil
abbrev XI := Option Addr → ByteArray → Option Addr → Nat → Nat → Int → Bool → Int → World → Prop
theorem inl_dispatch {X : XI} {b pb : Nat} {p : PS} {o : Opt} {s : List UInt8} {oq : Option Addr} {on oc : Nat} {lo : Int} {bk : Bool} {i : Nat} (hi : i < s.length) (hs : s.length < 4611686018427387904) (hpz : p.pz = some ⟨pb, 0, none⟩) (hp : p.at b ∈ L) (ho : o.at pb ∈ L) (h : Sat σ w L)
    (hK : match parserOf o s[i] with
      | .nil => g_parseState_inline.k1 R X (some ⟨b, 0, none⟩) (bs s) oq on oc lo bk i .nilFunc w
      | .fn f => g_parseState_inline.k1 R X (some ⟨b, 0, none⟩) (bs s) oq on oc lo bk i (.func (.func f) #[] #[]) w
      | .code => br (!bk) (callE P i_backtickParser_reset #[.pointer (some ⟨b, 12, none⟩)] (fun e w11 => e = .returned (.tuple #[]) ∧ g_parseState_inline.k1 R X (some ⟨b, 0, none⟩) (bs s) oq on oc lo true i (.func (.func i_backtickParser_parseCodeSpan) #[.pointer (some ⟨b, 12, none⟩)] #[]) w11) w)
          (g_parseState_inline.k1 R X (some ⟨b, 0, none⟩) (bs s) oq on oc lo bk i (.func (.func i_backtickParser_parseCodeSpan) #[.pointer (some ⟨b, 12, none⟩)] #[]) w)) :
    g_parseState_inline.bl1 R X (some ⟨b, 0, none⟩) (bs s) oq on oc lo bk i w := by
  have hld0 : w.cell? ⟨b, 0, none⟩ = some (.pointer (some ⟨pb, 0, none⟩)) := by rw [← hpz]; exact Sat.ld h hp rfl
  refine br_true (by simp; omega) ⟨by omega, by simp; omega, ?_⟩
  unfold parserOf at hK
  have hne : ∀ (d : UInt8) (m : Int), (d.toNat : Int) = m → ¬ s[i] = d → (bt (bs s) (i : Int) == m) = false := by
    intro d m hm hd; rw [bt_beq hi d m hm]; simpa using hd
  have hye : ∀ (d : UInt8) (m : Int), (d.toNat : Int) = m → s[i] = d → (bt (bs s) (i : Int) == m) = true := by
    intro d m hm hd; rw [bt_beq hi d m hm]; simpa using hd
  by_cases h92 : s[i] = 92
  · rw [if_pos h92] at hK; exact br_true (hye 92 92 rfl h92) hK
  rw [if_neg h92] at hK; refine br_false (hne 92 92 rfl h92) ?_
  by_cases h96 : s[i] = 96
  · rw [if_pos h96] at hK
    refine br_true (hye 96 96 rfl h96) ?_
    cases bk with
    | true => exact br_false rfl (nilP_some hK)
    | false => exact br_true rfl (nilP_some (by
        have hK : callE P i_backtickParser_reset #[.pointer (some ⟨b, 12, none⟩)] _ w := hK
        exact hK))
  rw [if_neg h96] at hK; refine br_false (hne 96 96 rfl h96) ?_
  by_cases h60 : s[i] = 60
  · rw [if_pos h60] at hK; exact br_true (hye 60 60 rfl h60) hK
  rw [if_neg h60] at hK; refine br_false (hne 60 60 rfl h60) ?_
  by_cases h91 : s[i] = 91
  · rw [if_pos h91] at hK; exact br_true (hye 91 91 rfl h91) hK
  rw [if_neg h91] at hK; refine br_false (hne 91 91 rfl h91) ?_
  by_cases h33 : s[i] = 33
  · rw [if_pos h33] at hK; exact br_true (hye 33 33 rfl h33) hK
  rw [if_neg h33] at hK; refine br_false (hne 33 33 rfl h33) ?_
  by_cases h95 : s[i] = 95
  · rw [if_pos (.inl h95)] at hK; exact br_true (hye 95 95 rfl h95) (br_true rfl hK)
  refine br_false (hne 95 95 rfl h95) ?_
  by_cases h42 : s[i] = 42
  · rw [if_pos (.inr h42)] at hK; exact br_true (hye 42 42 rfl h42) hK
  rw [if_neg (by simp [h95, h42])] at hK; refine br_false (hne 42 42 rfl h42) ?_
  have opt : ∀ {A B : Prop} (k : Nat) (v : Bool), o.cells[k]? = some (.bool v) → (v = true → A) → (v = false → B) →
      nilP (some (⟨b, 0, none⟩ : Addr)) fun a53 => ∃ (v54 : Option Addr), w.cell? a53 = some (.pointer v54) ∧ nilP v54 fun a55 => ∃ (v56 : Bool), w.cell? (a55.add k) = some (.bool v56) ∧ br v56 A B := by
    intro A B k v hv hA hB
    refine nilP_some ⟨_, hld0, nilP_some ?_⟩
    simp only [Addr.add_lit, Nat.zero_add]
    exact ⟨v, Sat.ld h ho hv, br_split hA hB⟩
  by_cases h46 : s[i] = 46
  · rw [if_pos h46] at hK
    refine br_true (hye 46 46 rfl h46) (opt 7 o.dot rfl (fun hv => ?_) (fun hv => ?_))
    · rw [if_pos hv] at hK; exact hK
    · rw [if_neg (by simp [hv])] at hK; exact hK
  rw [if_neg h46] at hK; refine br_false (hne 46 46 rfl h46) ?_
  by_cases h45 : s[i] = 45
  · rw [if_pos h45] at hK
    refine br_true (hye 45 45 rfl h45) (opt 8 o.dash rfl (fun hv => ?_) (fun hv => ?_))
    · rw [if_pos hv] at hK; exact hK
    · rw [if_neg (by simp [hv])] at hK; exact hK
  rw [if_neg h45] at hK; refine br_false (hne 45 45 rfl h45) ?_
  by_cases h34 : s[i] = 34
  · rw [if_pos (.inl h34)] at hK
    refine br_true (hye 34 34 rfl h34) (br_true rfl (opt 9 o.quote rfl (fun hv => ?_) (fun hv => ?_)))
    · rw [if_pos hv] at hK; exact hK
    · rw [if_neg (by simp [hv])] at hK; exact hK
  refine br_false (hne 34 34 rfl h34) ?_
  by_cases h39 : s[i] = 39
  · rw [if_pos (.inr h39)] at hK
    refine br_true (hye 39 39 rfl h39) (opt 9 o.quote rfl (fun hv => ?_) (fun hv => ?_))
    · rw [if_pos hv] at hK; exact hK
    · rw [if_neg (by simp [hv])] at hK; exact hK
  rw [if_neg (by simp [h34, h39])] at hK; refine br_false (hne 39 39 rfl h39) ?_
  by_cases h126 : s[i] = 126
  · rw [if_pos h126] at hK
    refine br_true (hye 126 126 rfl h126) (opt 1 o.strike rfl (fun hv => ?_) (fun hv => ?_))
    · rw [if_pos hv] at hK; exact hK
    · rw [if_neg (by simp [hv])] at hK; exact hK
  rw [if_neg h126] at hK; refine br_false (hne 126 126 rfl h126) ?_
  by_cases h10 : s[i] = 10
  · rw [if_pos h10] at hK; exact br_true (hye 10 10 rfl h10) hK
  rw [if_neg h10] at hK; refine br_false (hne 10 10 rfl h10) ?_
  by_cases h38 : s[i] = 38
  · rw [if_pos h38] at hK; exact br_true (hye 38 38 rfl h38) hK
  rw [if_neg h38] at hK; refine br_false (hne 38 38 rfl h38) ?_
  by_cases h58 : s[i] = 58
  · rw [if_pos h58] at hK
    refine br_true (hye 58 58 rfl h58) (opt 6 o.emoji rfl (fun hv => ?_) (fun hv => ?_))
    · rw [if_pos hv] at hK; exact hK
    · rw [if_neg (by simp [hv])] at hK; exact hK
  rw [if_neg h58] at hK; exact br_false (hne 58 58 rfl h58) hK
end Go.Proofs.YtihmcipajjakgaaGreatDoor


set_option linter.unusedVariables false
namespace Go.Proofs.YtihmcipajjakgaaGreatDoor
open Go.Proofs Go.IntWalk Go.RowKit
variable {σ : Out} {w : World} {L L' : List Chunk} {R : Ending → World → Prop}
def PS.core (p : PS) : PS := { p with em := 0, lq := none, ln := 0, lc := 0, corner := false, bt := [] }
def PS.core2 (p : PS) : PS := { p with corner := false, bt := [] }
theorem PS.core_of2 {p p' : PS} (h : p'.core2 = p.core2) : p'.core = p.core := by
  have := congrArg PS.core h
  simpa [PS.core, PS.core2] using this
def IIn (σ : Out) (b : Nat) (p : PS) (ts : List Inl) (opens : List Nat) (oq : Option Addr) (on oc : Nat) (L : List Chunk) (w : World) : Prop :=
  ∃ vs RM EM OM, Sl 1 ty_Inline p.lq p.ln p.lc vs RM ∧ InlsAt ts vs EM ∧ Sl 1 ty_int oq on oc (opens.map fun (n : Nat) => Value.int .i64 n) OM ∧ ts.length < 1073741824 ∧ Sat σ w (p.at b :: (RM ++ (EM ++ (OM ++ L))))
def sub (s : List UInt8) (i j : Nat) : List UInt8 := (s.take j).drop i
def emitM (s : List UInt8) (em i : Nat) (ts : List Inl) : List Inl := if em < i then ts ++ [.plain (sub s em i)] else ts
theorem emitI_ok {b e i : Nat} {p : PS} {ts : List Inl} {opens : List Nat} {oq : Option Addr} {on oc : Nat} (h : IIn σ b p ts opens oq on oc L w) (he : p.em = e) (hl : i ≤ p.s.length) (hn : ts.length < 1073741823)
    (hR : ∀ w p', p'.core = p.core → p'.bt = p.bt → p'.em = ((max e i : Nat) : Int) → IIn σ b p' (emitM p.s e i ts) opens oq on oc L w → R (.returned (.tuple #[])) w) :
    callE P i_parseState_emit #[.pointer (some ⟨b, 0, none⟩), .int .i64 i] R w := by
  obtain ⟨vs, RM, EM, OM, hS, hI, hO, hlen, h⟩ := h
  have hvl := hI.length
  by_cases hi : e < i
  · have h : Sat σ w (p.at b :: RM ++ (EM ++ (OM ++ L))) := h
    refine emit_ok (L := EM ++ (OM ++ L)) h ⟨hS, by omega⟩ he hi hl (by omega) fun w p' M' nb hp' hS' h => ?_
    refine hR w p' (by rw [hp']; rfl) (by rw [hp']) (by rw [hp']; show ((i : Nat) : Int) = _; congr 1; omega) ⟨_, M', EM ++ [plainC nb (sub p.s e i)], OM, hS'.1, ?_, hO, ?_, ?_⟩
    · unfold emitM; rw [if_pos hi]
      exact hI.append (InlsAt.one ⟨nb, [], _, rfl, rfl⟩)
    · unfold emitM; rw [if_pos hi]; simp; omega
    · have h : Sat σ w (p'.at b :: M' ++ (plainC nb (sub p.s e i) :: (EM ++ (OM ++ L)))) := h
      exact h.re (by intro _; simp only [List.append_eq, cnt_append, cnt_cons, cnt_nil] <;> omega)
  · refine emit_no h (by rw [he]; omega) fun w h => ?_
    refine hR w p rfl rfl (by rw [he]; congr 1; omega) ⟨vs, RM, EM, OM, hS, ?_, hO, ?_, h⟩
    · unfold emitM; rw [if_neg hi]; exact hI
    · unfold emitM; rw [if_neg hi]; exact hlen

def LeafOK (b : Nat) (p : PS) (s : List UInt8) (i : Nat) (fv : Value) (L0 : List Chunk) (res : Option (Inl × Nat × Nat)) (Q : PS → Prop) : Prop :=
  ∀ (σ : Out) (R : Ending → World → Prop) (L : List Chunk) (w : World), (∀ c ∈ L0, c ∈ L) → Sat σ w (p.at b :: L) →
    (match res with
      | none => ∀ w p' v x y, p'.core2 = p.core2 → Q p' → Sat σ w (p'.at b :: L) → R (.returned (.tuple #[v, .int .i64 x, .int .i64 y, .bool false])) w
      | some (t, st, en) => ∀ w p' v TM, p'.core2 = p.core2 → Q p' → InlAt t v TM → Sat σ w (p'.at b :: (TM ++ L)) → R (.returned (.tuple #[v, .int .i64 st, .int .i64 en, .bool true])) w) →
    enterE P (do let d ← Deferred.ofValue fv #[.pointer (some ⟨b, 0, none⟩), .string (bs s), .int .i64 i]; invoke d.target d.args) R w
def isFuncB (P : Program) (t : TypeId) : Bool := match P.underlying t with | some (.func _ _ _) => true | _ => false
theorem isFunc_out {P : Program} {t : TypeId} (h : isFuncB P t = true) : ∃ ps rs vr, P.underlying t = some (.func ps rs vr) := by
  unfold isFuncB at h
  split at h
  · rename_i a b c hd; exact ⟨_, _, _, hd⟩
  · cases h
theorem und_pf : isFuncB P ty_func_P_parseState_string_int_I_18a27a = true := by kernel_rfl
theorem neq_pf {x y : Operand} (k : FuncId) (f g : Array Value) (w : World) :
    (do eqGuard .neq ty_func_P_parseState_string_int_I_18a27a x y (.func (.func k) f g) .nilFunc; binOp .neq ty_func_P_parseState_string_int_I_18a27a (.func (.func k) f g) .nilFunc).run P w = .ok (.bool true) w := by
  obtain ⟨_, _, _, h⟩ := isFunc_out und_pf
  exact neq_func_nil h k f g w
theorem neq_pn {x y : Operand} (w : World) :
    (do eqGuard .neq ty_func_P_parseState_string_int_I_18a27a x y .nilFunc .nilFunc; binOp .neq ty_func_P_parseState_string_int_I_18a27a .nilFunc .nilFunc).run P w = .ok (.bool false) w := by
  obtain ⟨_, _, _, h⟩ := isFunc_out und_pf
  exact neq_nil_nil h w
def Inl.isOpen : Inl → Bool
  | .openP _ _ => true
  | _ => false
theorem Inl.ty_open {t : Inl} (h : t.isOpen = false) : t.ty ≠ ty_P_openPlain := by
  cases t <;> simp only [Inl.isOpen, reduceCtorEq] at h <;> (simp only [Inl.ty]; decide)
noncomputable def rowInt : Row P ty_S_int ty_int 1 8 :=
  ⟨(P.info? ty_int).getD default, ((P.info? ty_int).bind (·.zero)).getD default, by kernel_rfl, by kernel_rfl, by kernel_rfl, by kernel_rfl, by kernel_rfl, by kernel_rfl, by decide⟩
theorem fillN (n : Nat) : Instr.fill (fun i => some (i * 1, 1)) ((Array.range (1 * 1)).map (rowInt.z.cells[· % rowInt.z.cells.size]!)) [(0, .int .i64 n)] = some #[.int .i64 n] := by kernel_rfl
theorem inl_leaf {X : XI} {b i e st en : Nat} {p : PS} {ts : List Inl} {opens : List Nat} {oq : Option Addr} {on oc : Nat} {lo : Int} {bk : Bool} {f : FuncId} {fr cp : Array Value} {t : Inl} {L0 : List Chunk} {Q : PS → Prop}
    (h : IIn σ b p ts opens oq on oc L w) (hL0 : ∀ c ∈ L0, c ∈ L) (hf : LeafOK b p p.s i (.func (.func f) fr cp) L0 (some (t, st, en)) Q) (he : p.em = e) (hst : st ≤ p.s.length) (hs : p.s.length < 1000000000) (hn : ts.length < 1000000000) (hon : opens.length < 1000000000)
    (hK : ∀ w p' oq on oc, p'.core = p.core → p'.em = (en : Int) → (∃ p'', Q p'' ∧ p'.bt = p''.bt) → IIn σ b p' (emitM p.s e st ts ++ [t]) (if t.isOpen then opens ++ [(emitM p.s e st ts).length] else opens) oq on oc L w → X (some ⟨b, 0, none⟩) (bs p.s) oq on oc lo bk en w) :
    g_parseState_inline.k1 R X (some ⟨b, 0, none⟩) (bs p.s) oq on oc lo bk i (.func (.func f) fr cp) w := by
  refine ⟨_, _, neq_pf f fr cp w, br_true rfl ?_⟩
  obtain ⟨vs, RM, EM, OM, hS, hI, hO, hlen, h⟩ := h
  have hcl : ∀ c ∈ L0, c ∈ RM ++ (EM ++ (OM ++ L)) := fun c hc => List.mem_append_right _ (List.mem_append_right _ (List.mem_append_right _ (hL0 c hc)))
  refine hf σ _ (RM ++ (EM ++ (OM ++ L))) w hcl h fun w p1 v TM hp1 hq1 ht h => ⟨_, _, _, _, rfl, br_true rfl ?_⟩
  have hc1 := PS.core_of2 hp1
  have e1 : p1.lq = p.lq := by have := congrArg PS.lq hp1; exact this
  have e2 : p1.ln = p.ln := by have := congrArg PS.ln hp1; exact this
  have e3 : p1.lc = p.lc := by have := congrArg PS.lc hp1; exact this
  have e4 : p1.s = p.s := by have := congrArg PS.s hp1; exact this
  have e5 : p1.em = e := by have := congrArg PS.em hp1; rw [← he]; exact this
  have hI1 : IIn σ b p1 ts opens oq on oc (TM ++ L) w := ⟨vs, RM, EM, OM, by rw [e1, e2, e3]; exact hS, hI, hO, hlen, h.re (by intro _; simp only [List.append_eq, cnt_append, cnt_cons, cnt_nil] <;> omega)⟩
  refine emitI_ok hI1 e5 (by rw [e4]; exact hst) (by omega) fun w p2 hp2 hbt he2 h2 => ⟨rfl, ?_⟩
  rw [e4] at h2
  obtain ⟨pb, cs, ee, TM', rfl, rfl⟩ := ht.ptr
  have hc2 : p2.core = p.core := hp2.trans hc1
  have hs2 : p2.s = p.s := by have := congrArg PS.s hc2; exact this
  have elen : (emitM p.s e st ts).length ≤ ts.length + 1 := by unfold emitM; split <;> simp
  have fin : ∀ w oq on oc opens', opens' = (if t.isOpen then opens ++ [(emitM p.s e st ts).length] else opens) → IIn σ b p2 (emitM p.s e st ts) opens' oq on oc (((pb, cel cs ee) :: TM') ++ L) w →
      g_parseState_inline.k4 R X (some ⟨b, 0, none⟩) (bs p.s) oq on oc lo bk (ptrV t.ty pb) en w := by
    intro w oq on oc opens' ho h
    obtain ⟨vs, RM, EM, OM, hS, hI, hO, hlen, h⟩ := h
    have hvl := hI.length
    have hn0 := hS.1
    refine nilP_some ?_
    refine ⟨_, _, _, h.ldA, ?_⟩
    have h : Sat σ w (RM ++ (p2.at b :: (EM ++ (OM ++ (((pb, cel cs ee) :: TM') ++ L))))) := h.re (by intro _; simp only [List.append_eq, cnt_append, cnt_cons, cnt_nil] <;> omega)
    refine Sat.app1 rowInl hS h (v := ptrV t.ty pb) rfl (by simp [ptrV, Value.cells, Value.oneCell']) (fillI _ _) (by omega) (by omega) (by decide) fun q' c' w' M' hS' h => ?_
    have h : Sat σ w' (p2.at b :: (M' ++ (EM ++ (OM ++ (((pb, cel cs ee) :: TM') ++ L))))) := h.re (by intro _; simp only [List.append_eq, cnt_append, cnt_cons, cnt_nil] <;> omega)
    refine nilP_some ?_
    refine h.stA 0 fun w h => ?_
    let p3 : PS := { p2 with lq := q', ln := p2.ln + 1, lc := c' }
    have h : Sat σ w (p3.at b :: (M' ++ (EM ++ (OM ++ (((pb, cel cs ee) :: TM') ++ L))))) := h
    refine skipTo_ok h fun w h => ⟨rfl, ?_⟩
    refine hK w { p3 with em := en } oq on oc (by rw [← hc2]; rfl) rfl ⟨p1, hq1, hbt⟩ ⟨_, M', EM ++ ((pb, cel cs ee) :: TM'), OM, hS', ?_, by rw [← ho]; exact hO, by simp; omega, h.re (by intro _; simp only [List.append_eq, cnt_append, cnt_cons, cnt_nil] <;> omega)⟩
    exact hI.append (InlsAt.one ht)
  cases hto : t.isOpen with
  | false =>
    refine ⟨_, _, w, ta_open_no (Inl.ty_open hto) w, br_false rfl ?_⟩
    exact fin w oq on oc opens (by rw [hto]; rfl) h2
  | true =>
    have hty : t.ty = ty_P_openPlain := by cases t <;> simp only [Inl.isOpen, reduceCtorEq] at hto; rfl
    have hta : (Instr.typeAssert (ptrV t.ty pb) ty_Inline ty_P_openPlain true).run P w = .ok (.tuple #[.pointer (some ⟨pb, 0, none⟩), .bool true]) w := by
      rw [hty]; exact ta_open_yes w
    refine ⟨_, _, w, hta, br_true rfl ?_⟩
    obtain ⟨vs, RM, EM, OM, hS, hI, hO, hlen, h⟩ := h2
    have hvl := hI.length
    have hn0 := hS.1
    have hol := hO.1
    rw [List.length_map] at hol
    refine nilP_some ?_
    refine ⟨_, _, _, h.ldA, ?_⟩
    have h : Sat σ w (OM ++ (p2.at b :: (RM ++ (EM ++ (((pb, cel cs ee) :: TM') ++ L))))) := h.re (by intro _; simp only [List.append_eq, cnt_append, cnt_cons, cnt_nil] <;> omega)
    have hln : p2.ln = (emitM p.s e st ts).length := by omega
    rw [hln]
    generalize hm : (emitM p.s e st ts).length = m at fin elen hln ⊢
    refine Sat.app1 rowInt hO h (v := .int .i64 (m : Nat)) rfl (by simp [Value.cells, Value.oneCell']) (fillN m) (by omega) (by omega) (by decide) fun q' c' w' M' hO' h => ?_
    refine fin w' q' _ c' _ (by rw [hto] <;> rfl) ⟨vs, RM, EM, M', hS, hI, ?_, hlen, h.re (by intro _; simp only [List.append_eq, cnt_append, cnt_cons, cnt_nil] <;> omega)⟩
    rw [if_pos rfl, List.map_append]; exact hO'
theorem inl_k5 {X : XI} {b i : Nat} {s : List UInt8} {oq : Option Addr} {on oc : Nat} {lo : Int} {bk : Bool} (hi : i < s.length) (hs : s.length < 4611686018427387904) (hc : s[i] ≠ 93 ∨ on = 0)
    (hK : X (some ⟨b, 0, none⟩) (bs s) oq on oc lo bk ((i + 1 : Nat) : Int) w) : g_parseState_inline.k5 R X (some ⟨b, 0, none⟩) (bs s) oq on oc lo bk i w := by
  refine ⟨by omega, by simp; omega, ?_⟩
  refine br_false ?_ ?_
  · rw [bt_beq hi 93 93 rfl]
    rcases hc with hc | hc
    · simp [hc]
    · simp [hc]
  · rw [i64_inc (by omega)]; exact hK
theorem inl_none {X : XI} {b i : Nat} {s : List UInt8} {oq : Option Addr} {on oc : Nat} {lo : Int} {bk : Bool} (hK : g_parseState_inline.k5 R X (some ⟨b, 0, none⟩) (bs s) oq on oc lo bk i w) :
    g_parseState_inline.k1 R X (some ⟨b, 0, none⟩) (bs s) oq on oc lo bk i .nilFunc w :=
  ⟨_, _, neq_pn w, br_false rfl hK⟩
end Go.Proofs.YtihmcipajjakgaaGreatDoor


set_option linter.unusedVariables false
namespace Go.Proofs.YtihmcipajjakgaaGreatDoor
open Go.Proofs Go.IntWalk Go.RowKit
variable {σ : Out} {w : World} {L L' : List Chunk} {R : Ending → World → Prop}
def EmphOK (ts ts' : List Inl) : Prop :=
  ∀ (σ : Out) (R : Ending → World → Prop) (pq q : Option Addr) (n c : Nat) vs RM EM L w, Sl 1 ty_Inline q n c vs RM → InlsAt ts vs EM → n < 1073741823 → Sat σ w (RM ++ (EM ++ L)) →
    (∀ w q' n' c' vs' RM' EM', Sl 1 ty_Inline q' n' c' vs' RM' → n' ≤ n → InlsAt ts' vs' EM' → Sat σ w (RM' ++ (EM' ++ L)) → R (.returned (.slice q' n' c')) w) →
    callE P i_parseState_emph #[.pointer pq, .slice q 0 c, .slice q n c] R w
theorem emphOK_none {ts : List Inl} (hno : ∀ t ∈ ts, t.ty ≠ ty_P_openPlain ∧ t.ty ≠ ty_P_emphPlain) : EmphOK ts ts := by
  intro σ R pq q n c vs RM EM L w hS hI hn h hR
  exact emph_none_ok hS hI hno (by omega) h fun w h => hR w q n c vs RM EM hS (Nat.le_refl _) hI h
theorem autoOff_ok {b pb : Nat} {p : PS} {o : Opt} {q : Option Addr} {n c : Nat} (hpz : p.pz = some ⟨pb, 0, none⟩) (hp : p.at b ∈ L) (ho : o.at pb ∈ L) (hoff : o.auto = false) (h : Sat σ w L) (hR : R (.returned (.slice q n c)) w) :
    callE P i_parseState_autoLinkText #[.pointer (some ⟨b, 0, none⟩), .slice q n c] R w := by
  refine g_parseState_autoLinkText.sound ?_
  refine nilP_some ⟨_, by rw [← hpz]; exact Sat.ld h hp rfl, nilP_some ?_⟩
  simp only [Addr.add_lit, Nat.zero_add]
  exact ⟨o.auto, Sat.ld h ho rfl, br_true (by rw [hoff]; rfl) hR⟩
def AutoOK (o : Opt) (ts ts' : List Inl) : Prop :=
  ∀ (σ : Out) (R : Ending → World → Prop) (b pb : Nat) (p : PS) (q : Option Addr) (n c : Nat) (vs : List Value) (RM EM L : List Chunk) (w : World), p.pz = some ⟨pb, 0, none⟩ → p.at b ∈ L → o.at pb ∈ L → Sl 1 ty_Inline q n c vs RM → n < 1073741824 → InlsAt ts vs EM → Sat σ w (RM ++ (EM ++ L)) →
    (∀ w q' n' c' vs' RM' EM', Sl 1 ty_Inline q' n' c' vs' RM' → n' < 1073741824 → InlsAt ts' vs' EM' → Sat σ w (RM' ++ (EM' ++ L)) → R (.returned (.slice q' n' c')) w) →
    callE P i_parseState_autoLinkText #[.pointer (some ⟨b, 0, none⟩), .slice q n c] R w
theorem autoOK_off {o : Opt} {ts : List Inl} (hoff : o.auto = false) : AutoOK o ts ts := fun σ R b pb p q n c vs RM EM L w hpz hp ho hS hn hI h hR =>
  autoOff_ok hpz (List.mem_append_right _ (List.mem_append_right _ hp)) (List.mem_append_right _ (List.mem_append_right _ ho)) hoff h (hR w q n c vs RM EM hS hn hI h)
theorem inl_endA {X : XI} {b pb e : Nat} {p : PS} {o : Opt} {ts ts' ts2 : List Inl} {opens : List Nat} {oq : Option Addr} {on oc : Nat} {lo : Int} {bk : Bool} (h : IIn σ b p ts opens oq on oc L w) (he : p.em = e) (hs : p.s.length < 1000000000)
    (hn : ts.length < 1000000000) (hpz : p.pz = some ⟨pb, 0, none⟩) (ho : o.at pb ∈ L) (hE : EmphOK (emitM p.s e p.s.length ts) ts') (hpos : ∀ t ∈ ts', ∀ s, t.plain? = some s → s ≠ []) (hb : plen ts' < 1073741824) (hA : AutoOK o (mergeM ts') ts2)
    (hR : ∀ w (p' : PS) q n c vs RM EM, p'.core = p.core → Sl 1 ty_Inline q n c vs RM → n < 1073741824 → InlsAt ts2 vs EM → Sat σ w (p'.at b :: (RM ++ (EM ++ L))) → R (.returned (.slice q n c)) w) :
    g_parseState_inline.bl1 R X (some ⟨b, 0, none⟩) (bs p.s) oq on oc lo bk (p.s.length : Nat) w := by
  have elen : (emitM p.s e p.s.length ts).length ≤ ts.length + 1 := by unfold emitM; split <;> simp
  refine br_false (by simp) ?_
  rw [bs_size]
  refine emitI_ok h he (Nat.le_refl _) (by omega) fun w p1 hp1 _ _ h => ⟨rfl, ?_⟩
  obtain ⟨vs, RM, EM, OM, hS, hI, hO, hlen, h⟩ := h
  have hvl := hI.length
  have hn0 := hS.1
  have hnc := hS.2.1
  have c1 : p1.pz = p.pz := by have := congrArg PS.pz hp1; exact this
  refine h.tk fun w h => ?_
  refine nilP_some (nilP_some ?_)
  refine ⟨_, _, _, h.ldA, ?_⟩
  refine ⟨_, _, _, fun w => sliceT rowInl.ht rowInl.hi _ _ _ 0 (by omega) w, ?_⟩
  refine ⟨_, _, _, h.ldA, ?_⟩
  have h : Sat σ w (RM ++ (EM ++ (p1.at b :: (OM ++ L)))) := h.re (by intro _; simp only [List.append_eq, cnt_append, cnt_cons, cnt_nil] <;> omega)
  refine hE σ _ _ p1.lq p1.ln p1.lc vs RM EM _ w hS hI (by omega) h fun w q' n' c' vs' RM' EM' hS' hnn hI' h => ⟨_, _, _, rfl, nilP_some ?_⟩
  have h : Sat σ w (p1.at b :: (RM' ++ (EM' ++ (OM ++ L)))) := h.re (by intro _; simp only [List.append_eq, cnt_append, cnt_cons, cnt_nil] <;> omega)
  refine h.stA 0 fun w h => ?_
  let p2 : PS := { p1 with lq := q', ln := n', lc := c' }
  have h : Sat σ w (p2.at b :: (RM' ++ (EM' ++ (OM ++ L)))) := h
  refine nilP_some ?_
  refine ⟨_, _, _, h.ldA, ?_⟩
  have h : Sat σ w (RM' ++ (EM' ++ (p2.at b :: (OM ++ L)))) := h.re (by intro _; simp only [List.append_eq, cnt_append, cnt_cons, cnt_nil] <;> omega)
  refine mergePlain_ok (n := n') hS' hI' hpos hb (by omega) h fun w n2 vs2 RM2 EM2 hS2 hn2 hI2 h => ⟨_, _, _, rfl, nilP_some ?_⟩
  have h : Sat σ w (p2.at b :: (RM2 ++ (EM2 ++ (OM ++ L)))) := h.re (by intro _; simp only [List.append_eq, cnt_append, cnt_cons, cnt_nil] <;> omega)
  refine h.stA 0 fun w h => ?_
  let p3 : PS := { p1 with lq := q', ln := n2, lc := c' }
  have h : Sat σ w (p3.at b :: (RM2 ++ (EM2 ++ (OM ++ L)))) := h
  refine nilP_some ?_
  refine ⟨_, _, _, h.ldA, ?_⟩
  have h : Sat σ w (RM2 ++ (EM2 ++ (p3.at b :: (OM ++ L)))) := h.re (by intro _; simp only [List.append_eq, cnt_append, cnt_cons, cnt_nil] <;> omega)
  refine hA σ _ b pb p3 q' n2 c' vs2 RM2 EM2 _ w (by rw [← hpz, ← c1]) (.head _) (.tail _ (List.mem_append_right _ ho)) hS2 (by omega) hI2 h fun w q3 n3 c3 vs3 RM3 EM3 hS3 hn3 hI3 h => ⟨_, _, _, rfl, nilP_some ?_⟩
  have h : Sat σ w (p3.at b :: (RM3 ++ (EM3 ++ (OM ++ L)))) := h.re (by intro _; simp only [List.append_eq, cnt_append, cnt_cons, cnt_nil] <;> omega)
  refine h.stA 0 fun w h => ?_
  refine nilP_some ?_
  refine ⟨_, _, _, h.ldA, ?_⟩
  let p4 : PS := { p1 with lq := q3, ln := n3, lc := c3 }
  have h : Sat σ w (p4.at b :: (RM3 ++ (EM3 ++ (OM ++ L)))) := h
  exact hR w p4 q3 n3 c3 vs3 RM3 EM3 (by rw [← hp1]; rfl) hS3 hn3 hI3 (h.less OM (by intro _; simp only [List.append_eq, cnt_append, cnt_cons, cnt_nil] <;> omega))
theorem inl_begin {b : Nat} {p : PS} {raw : List UInt8} (h : Sat σ w (p.at b :: L)) (hl : raw.length < 4611686018427387904)
    (hK : ∀ w, IIn σ b { p with s := trimLR isST raw, em := 0, lq := none, ln := 0, lc := 0 } [] [] none 0 0 L w → g_parseState_inline.l1 R (some ⟨b, 0, none⟩) (bs (trimLR isST raw)) none 0 0 0 false 0 w) :
    callE P i_parseState_inline #[.pointer (some ⟨b, 0, none⟩), .string (bs raw)] R w := by
  refine g_parseState_inline.sound ?_
  refine trimSpaceTab_ok hl ⟨_, rfl, nilP_some ?_⟩
  refine h.stA 0 fun w h => ?_
  refine nilP_some ?_
  refine h.stA 0 fun w h => ?_
  refine nilP_some ?_
  refine h.stA 0 fun w h => ?_
  exact hK w ⟨[], [], [], [], Sl.nil _ _, ⟨rfl, rfl⟩, Sl.nil _ _, by simp, h⟩
end Go.Proofs.YtihmcipajjakgaaGreatDoor


set_option linter.unusedVariables false
namespace Go.Proofs.YtihmcipajjakgaaGreatDoor
open Go.Proofs Go.IntWalk Go.RowKit
variable {σ : Out} {w : World} {L L' : List Chunk} {R : Ending → World → Prop}
def PS.coreS (p : PS) : PS := ({ p with s := [] } : PS).core
def InlineOK (op : Opt) (s : List UInt8) (f : List UInt8 → List UInt8) : Prop :=
  ∀ (σ : Out) (R : Ending → World → Prop) (b pb : Nat) (p : PS) (L : List Chunk) (w : World), Sat σ w (p.at b :: L) → p.pz = some ⟨pb, 0, none⟩ → op.at pb ∈ L → p.links = none →
    (∀ w (p' : PS) q n c vs RM KM KM', p'.coreS = p.coreS → Sl 1 ty_Inline q n c vs RM → n < 1073741824 → PrintsL "PrintHTML" vs KM KM' f → Sat σ w (p'.at b :: (RM ++ (KM ++ L))) → R (.returned (.slice q n c)) w) →
    callE P i_parseState_inline #[.pointer (some ⟨b, 0, none⟩), .string (bs s)] R w
def InlineOKG (lk : Option Nat) (L0 : List Chunk) (op : Opt) (s : List UInt8) (f : List UInt8 → List UInt8) : Prop :=
  ∀ (σ : Out) (R : Ending → World → Prop) (b pb : Nat) (p : PS) (L : List Chunk) (w : World), (∀ c ∈ L0, c ∈ L) → Sat σ w (p.at b :: L) → p.pz = some ⟨pb, 0, none⟩ → op.at pb ∈ L → p.links = lk →
    (∀ w (p' : PS) q n c vs RM KM KM', p'.coreS = p.coreS → Sl 1 ty_Inline q n c vs RM → n < 1073741824 → PrintsL "PrintHTML" vs KM KM' f → Sat σ w (p'.at b :: (RM ++ (KM ++ L))) → R (.returned (.slice q n c)) w) →
    callE P i_parseState_inline #[.pointer (some ⟨b, 0, none⟩), .string (bs s)] R w
abbrev InlineOKL (L0 : List Chunk) (op : Opt) (s : List UInt8) (f : List UInt8 → List UInt8) : Prop := InlineOKG none L0 op s f
theorem InlineOK.lift {op : Opt} {s : List UInt8} {f : List UInt8 → List UInt8} (h : InlineOK op s f) : InlineOKL [] op s f := fun σ R b pb p L w _ => h σ R b pb p L w
def PS0 (pz : Option Addr) : PS := ⟨pz, none, none, 0, none, 0, 0, 0, false, [], 0, none, 0, 0, none, 0, 0, none, 0, 0, List.replicate 80 (.int .i64 0) ++ [.bool false]⟩
end Go.Proofs.YtihmcipajjakgaaGreatDoor


set_option linter.unusedVariables false
set_option maxRecDepth 20000
namespace Go.Proofs.YtihmcipajjakgaaGreatDoor
open Go.Proofs
namespace g_Parser_Parse
noncomputable def body : Code := bodyOf Tryz.f22
end g_Parser_Parse
def g_Parser_Parse (R : EP) (x0 : OA) (x1 : BA) (w : World) : Prop :=
 callE P i_Parser_parse #[.pointer x0, .string x1] (fun e w2 => ∃ (r1_0 : OA), ∃ (r1_1 : Bool), e = .returned (.tuple #[.pointer r1_0, .bool r1_1]) ∧
 R (.returned (.pointer r1_0)) w2) w

noncomputable def g_Parser_Parse.ac (R : EP) : AC :=
  (.leaf (sel [] g_Parser_Parse.body))
theorem g_Parser_Parse.good (R : EP) : Good P 14 (g_Parser_Parse.ac R) (QF P [.tmp 4] R) :=
  trivial
theorem g_Parser_Parse.eq (R : EP) (x0 : OA) (x1 : BA) (w : World) : g_Parser_Parse R x0 x1 w = vcA P 14 (g_Parser_Parse.ac R) (QF P [.tmp 4] R) (fr0 [.pointer x0, .string x1]) w := by kernel_rfl
theorem g_Parser_Parse.sound {R : EP} {x0 : OA} {x1 : ByteArray} {w : World} (h : g_Parser_Parse R x0 x1 w) : callE P i_Parser_Parse #[.pointer x0, .string x1] R w :=
  callE_fin (c := g_Parser_Parse.body) Tryz.func22 Tryz.call22 (by kernel_rfl) (by kernel_rfl) (by kernel_rfl) (by kernel_rfl) (by kernel_rfl) (g_Parser_Parse.good R) (g_Parser_Parse.eq R x0 x1 w) h
namespace g_impl_HTML
noncomputable def body : Code := bodyOf Tryz.f8
end g_impl_HTML
def g_impl_HTML (R : EP) (x0_0 : Bool) (x0_1 : Bool) (x0_2 : Bool) (x0_3 : Bool) (x0_4 : Bool) (x0_5 : Bool) (x0_6 : Bool) (x0_7 : Bool) (x0_8 : Bool) (x0_9 : Bool) (x1 : BA) (w : World) : Prop :=
 box w #[.bool x0_0, .bool x0_1, .bool x0_2, .bool x0_3, .bool x0_4, .bool x0_5, .bool x0_6, .bool x0_7, .bool x0_8, .bool x0_9] ty_impl_Options fun b1 w2 =>
 ∃ (v3 : Bool), w2.cell? ⟨b1, 0, none⟩ = some (.bool v3) ∧
 ∃ (v4 : Bool), w2.cell? ⟨b1, 1, none⟩ = some (.bool v4) ∧
 ∃ (v5 : Bool), w2.cell? ⟨b1, 2, none⟩ = some (.bool v5) ∧
 ∃ (v6 : Bool), w2.cell? ⟨b1, 3, none⟩ = some (.bool v6) ∧
 ∃ (v7 : Bool), w2.cell? ⟨b1, 4, none⟩ = some (.bool v7) ∧
 ∃ (v8 : Bool), w2.cell? ⟨b1, 5, none⟩ = some (.bool v8) ∧
 ∃ (v9 : Bool), w2.cell? ⟨b1, 6, none⟩ = some (.bool v9) ∧
 ∃ (v10 : Bool), w2.cell? ⟨b1, 7, none⟩ = some (.bool v10) ∧
 ∃ (v11 : Bool), w2.cell? ⟨b1, 8, none⟩ = some (.bool v11) ∧
 ∃ (v12 : Bool), w2.cell? ⟨b1, 9, none⟩ = some (.bool v12) ∧
 callE P i_impl_parser #[.agg #[.bool v3, .bool v4, .bool v5, .bool v6, .bool v7, .bool v8, .bool v9, .bool v10, .bool v11, .bool v12]] (fun e w14 => ∃ (r13 : OA), e = .returned (.pointer r13) ∧
 callE P i_Parser_Parse #[.pointer r13, .string x1] (fun e w16 => ∃ (r15 : OA), e = .returned (.pointer r15) ∧
 callE P i_ToHTML #[.iface ty_P_Document (.pointer r15)] (fun e w18 => ∃ (r17 : BA), e = .returned (.string r17) ∧
 R (.returned (.string r17)) w18) w16) w14) w2

noncomputable def g_impl_HTML.ac (R : EP) : AC :=
  (.leaf (sel [] g_impl_HTML.body))
theorem g_impl_HTML.good (R : EP) : Good P 11 (g_impl_HTML.ac R) (QF P [.tmp 4] R) :=
  trivial
theorem g_impl_HTML.eq (R : EP) (x0_0 : Bool) (x0_1 : Bool) (x0_2 : Bool) (x0_3 : Bool) (x0_4 : Bool) (x0_5 : Bool) (x0_6 : Bool) (x0_7 : Bool) (x0_8 : Bool) (x0_9 : Bool) (x1 : BA) (w : World) : g_impl_HTML R x0_0 x0_1 x0_2 x0_3 x0_4 x0_5 x0_6 x0_7 x0_8 x0_9 x1 w = vcA P 11 (g_impl_HTML.ac R) (QF P [.tmp 4] R) (fr0 [.agg #[.bool x0_0, .bool x0_1, .bool x0_2, .bool x0_3, .bool x0_4, .bool x0_5, .bool x0_6, .bool x0_7, .bool x0_8, .bool x0_9], .string x1]) w := by kernel_rfl
theorem g_impl_HTML.sound {R : EP} {x0_0 : Bool} {x0_1 : Bool} {x0_2 : Bool} {x0_3 : Bool} {x0_4 : Bool} {x0_5 : Bool} {x0_6 : Bool} {x0_7 : Bool} {x0_8 : Bool} {x0_9 : Bool} {x1 : ByteArray} {w : World} (h : g_impl_HTML R x0_0 x0_1 x0_2 x0_3 x0_4 x0_5 x0_6 x0_7 x0_8 x0_9 x1 w) : callE P i_impl_HTML #[.agg #[.bool x0_0, .bool x0_1, .bool x0_2, .bool x0_3, .bool x0_4, .bool x0_5, .bool x0_6, .bool x0_7, .bool x0_8, .bool x0_9], .string x1] R w :=
  callE_fin (c := g_impl_HTML.body) Tryz.func8 Tryz.call8 (by kernel_rfl) (by kernel_rfl) (by kernel_rfl) (by kernel_rfl) (by kernel_rfl) (g_impl_HTML.good R) (g_impl_HTML.eq R x0_0 x0_1 x0_2 x0_3 x0_4 x0_5 x0_6 x0_7 x0_8 x0_9 x1 w) h
namespace g_impl_parser
noncomputable def body : Code := bodyOf Tryz.f21
end g_impl_parser
def g_impl_parser (R : EP) (x0_0 : Bool) (x0_1 : Bool) (x0_2 : Bool) (x0_3 : Bool) (x0_4 : Bool) (x0_5 : Bool) (x0_6 : Bool) (x0_7 : Bool) (x0_8 : Bool) (x0_9 : Bool) (w : World) : Prop :=
 box w #[.bool x0_0, .bool x0_1, .bool x0_2, .bool x0_3, .bool x0_4, .bool x0_5, .bool x0_6, .bool x0_7, .bool x0_8, .bool x0_9] ty_impl_Options fun b1 w2 =>
 ∃ (v3 : Bool), w2.cell? ⟨b1, 8, none⟩ = some (.bool v3) ∧
 ∃ (v4 : Bool), w2.cell? ⟨b1, 0, none⟩ = some (.bool v4) ∧
 ∃ (v5 : Bool), w2.cell? ⟨b1, 1, none⟩ = some (.bool v5) ∧
 ∃ (v6 : Bool), w2.cell? ⟨b1, 2, none⟩ = some (.bool v6) ∧
 ∃ (v7 : Bool), w2.cell? ⟨b1, 3, none⟩ = some (.bool v7) ∧
 ∃ (v8 : Bool), w2.cell? ⟨b1, 4, none⟩ = some (.bool v8) ∧
 ∃ (v9 : Bool), w2.cell? ⟨b1, 9, none⟩ = some (.bool v9) ∧
 ∃ (v10 : Bool), w2.cell? ⟨b1, 5, none⟩ = some (.bool v10) ∧
 ∃ (v11 : Bool), w2.cell? ⟨b1, 6, none⟩ = some (.bool v11) ∧
 ∃ (v12 : Bool), w2.cell? ⟨b1, 7, none⟩ = some (.bool v12) ∧
 box w2 #[.bool v3, .bool v4, .bool v5, .bool v6, .bool v7, .bool v8, .bool v9, .bool v10, .bool v11, .bool v12] ty_Parser fun b13 w14 =>
 R (.returned (.pointer (some ⟨b13, 0, none⟩))) w14

noncomputable def g_impl_parser.ac (R : EP) : AC :=
  (.leaf (sel [] g_impl_parser.body))
theorem g_impl_parser.good (R : EP) : Good P 25 (g_impl_parser.ac R) (QF P [.tmp 2] R) :=
  trivial
theorem g_impl_parser.eq (R : EP) (x0_0 : Bool) (x0_1 : Bool) (x0_2 : Bool) (x0_3 : Bool) (x0_4 : Bool) (x0_5 : Bool) (x0_6 : Bool) (x0_7 : Bool) (x0_8 : Bool) (x0_9 : Bool) (w : World) : g_impl_parser R x0_0 x0_1 x0_2 x0_3 x0_4 x0_5 x0_6 x0_7 x0_8 x0_9 w = vcA P 25 (g_impl_parser.ac R) (QF P [.tmp 2] R) (fr0 [.agg #[.bool x0_0, .bool x0_1, .bool x0_2, .bool x0_3, .bool x0_4, .bool x0_5, .bool x0_6, .bool x0_7, .bool x0_8, .bool x0_9]]) w := by kernel_rfl
theorem g_impl_parser.sound {R : EP} {x0_0 : Bool} {x0_1 : Bool} {x0_2 : Bool} {x0_3 : Bool} {x0_4 : Bool} {x0_5 : Bool} {x0_6 : Bool} {x0_7 : Bool} {x0_8 : Bool} {x0_9 : Bool} {w : World} (h : g_impl_parser R x0_0 x0_1 x0_2 x0_3 x0_4 x0_5 x0_6 x0_7 x0_8 x0_9 w) : callE P i_impl_parser #[.agg #[.bool x0_0, .bool x0_1, .bool x0_2, .bool x0_3, .bool x0_4, .bool x0_5, .bool x0_6, .bool x0_7, .bool x0_8, .bool x0_9]] R w :=
  callE_fin (c := g_impl_parser.body) Tryz.func21 Tryz.call21 (by kernel_rfl) (by kernel_rfl) (by kernel_rfl) (by kernel_rfl) (by kernel_rfl) (g_impl_parser.good R) (g_impl_parser.eq R x0_0 x0_1 x0_2 x0_3 x0_4 x0_5 x0_6 x0_7 x0_8 x0_9 w) h
end Go.Proofs.YtihmcipajjakgaaGreatDoor

set_option linter.unusedVariables false
namespace Go.Proofs.YtihmcipajjakgaaGreatDoor
open Go.Proofs Go.IntWalk Go.RowKit
variable {σ : Out} {w : World} {L L' : List Chunk} {R : Ending → World → Prop}
def optV (o : Opt) : Value := .agg #[.bool o.strike, .bool o.task, .bool o.auto, .bool o.http, .bool o.table, .bool o.dot, .bool o.dash, .bool o.quote, .bool o.ids, .bool o.emoji]
theorem parser_ok {o : Opt} (h : Sat σ w L) (hR : ∀ w pb, Sat σ w (o.at pb :: L) → R (.returned (.pointer (some ⟨pb, 0, none⟩))) w) : callE P i_impl_parser #[optV o] R w := by
  refine g_impl_parser.sound ?_
  refine Sat.bx h fun b w h => ?_
  have ld : ∀ (k : Nat) (v : Bool), ([Value.bool o.strike, .bool o.task, .bool o.auto, .bool o.http, .bool o.table, .bool o.dot, .bool o.dash, .bool o.quote, .bool o.ids, .bool o.emoji])[k]? = some (.bool v) → w.cell? ⟨b, k, none⟩ = some (.bool v) := fun k v hv => Sat.ld h (.head _) hv
  refine ⟨_, ld 8 _ rfl, _, ld 0 _ rfl, _, ld 1 _ rfl, _, ld 2 _ rfl, _, ld 3 _ rfl, _, ld 4 _ rfl, _, ld 9 _ rfl, _, ld 5 _ rfl, _, ld 6 _ rfl, _, ld 7 _ rfl, ?_⟩
  refine Sat.bx h fun pb w h => hR w pb ?_
  have h : Sat σ w (o.at pb :: (b, cel [Value.bool o.strike, .bool o.task, .bool o.auto, .bool o.http, .bool o.table, .bool o.dot, .bool o.dash, .bool o.quote, .bool o.ids, .bool o.emoji] ty_impl_Options) :: L) := h
  exact (h.less [(b, cel [Value.bool o.strike, .bool o.task, .bool o.auto, .bool o.http, .bool o.table, .bool o.dot, .bool o.dash, .bool o.quote, .bool o.ids, .bool o.emoji] ty_impl_Options)] (by intro _; simp only [List.append_eq, cnt_append, cnt_cons, cnt_nil] <;> omega))
def ParsesTo (o : Opt) (raw out : List UInt8) : Prop :=
  ∀ (σ : Out) (R : Ending → World → Prop) (L : List Chunk) (w : World) (pb : Nat), Sat σ w L → o.at pb ∈ L →
    (∀ w db k DM DM' f, Prints "PrintHTML" (.iface ty_P_Document (.pointer (some ⟨db, 0, none⟩))) DM DM' f → f [] = out → Sat σ w (DM ++ L) → R (.returned (.tuple #[.pointer (some ⟨db, 0, none⟩), .bool k])) w) →
    callE P i_Parser_parse #[.pointer (some ⟨pb, 0, none⟩), .string (bs raw)] R w
def ParsesToL (L0 : List Chunk) (o : Opt) (raw out : List UInt8) : Prop :=
  ∀ (σ : Out) (R : Ending → World → Prop) (L : List Chunk) (w : World) (pb : Nat), (∀ c ∈ L0, c ∈ L) → Sat σ w L → o.at pb ∈ L →
    (∀ w db k DM DM' f, Prints "PrintHTML" (.iface ty_P_Document (.pointer (some ⟨db, 0, none⟩))) DM DM' f → f [] = out → Sat σ w (DM ++ L) → R (.returned (.tuple #[.pointer (some ⟨db, 0, none⟩), .bool k])) w) →
    callE P i_Parser_parse #[.pointer (some ⟨pb, 0, none⟩), .string (bs raw)] R w
theorem ParsesTo.lift {o : Opt} {raw out : List UInt8} (h : ParsesTo o raw out) : ParsesToL [] o raw out := fun σ R L w pb _ => h σ R L w pb
theorem html_okL {L0 : List Chunk} {o : Opt} {raw out : List UInt8} (hP : ParsesToL L0 o raw out) (hL0 : ∀ c ∈ L0, c ∈ L) (hout : out.length ≤ 549755813888) (h : Sat σ w L) (hR : ∀ w, Sat σ w L → R (.returned (.string (bs out))) w) : callE P i_impl_HTML #[optV o, .string (bs raw)] R w := by
  refine g_impl_HTML.sound ?_
  refine Sat.bx h fun b w h => ?_
  have ld : ∀ (k : Nat) (v : Bool), ([Value.bool o.strike, .bool o.task, .bool o.auto, .bool o.http, .bool o.table, .bool o.dot, .bool o.dash, .bool o.quote, .bool o.ids, .bool o.emoji])[k]? = some (.bool v) → w.cell? ⟨b, k, none⟩ = some (.bool v) := fun k v hv => Sat.ld h (.head _) hv
  refine ⟨_, ld 0 _ rfl, _, ld 1 _ rfl, _, ld 2 _ rfl, _, ld 3 _ rfl, _, ld 4 _ rfl, _, ld 5 _ rfl, _, ld 6 _ rfl, _, ld 7 _ rfl, _, ld 8 _ rfl, _, ld 9 _ rfl, ?_⟩
  refine parser_ok h fun w pb h => ⟨_, rfl, ?_⟩
  refine g_Parser_Parse.sound ?_
  refine hP σ _ _ w pb (fun c hc => .tail _ (.tail _ (hL0 c hc))) h (.head _) fun w db k DM DM' f hf hfo h => ⟨_, _, rfl, _, rfl, ?_⟩
  subst hfo
  refine toHTML_ok hf h hout fun w h => ⟨_, rfl, hR w ?_⟩
  exact h.less (DM' ++ (o.at pb :: [(b, cel [Value.bool o.strike, .bool o.task, .bool o.auto, .bool o.http, .bool o.table, .bool o.dot, .bool o.dash, .bool o.quote, .bool o.ids, .bool o.emoji] ty_impl_Options)])) (by intro _; simp only [List.append_eq, cnt_append, cnt_cons, cnt_nil] <;> omega)
theorem html_ok {o : Opt} {raw out : List UInt8} (hP : ParsesTo o raw out) (hout : out.length ≤ 549755813888) (h : Sat σ w L) (hR : ∀ w, Sat σ w L → R (.returned (.string (bs out))) w) : callE P i_impl_HTML #[optV o, .string (bs raw)] R w :=
  html_okL hP.lift (by simp) hout h hR
theorem bs_of (b : ByteArray) : b = bs b.data.toList := by
  cases b; rfl
end Go.Proofs.YtihmcipajjakgaaGreatDoor


set_option linter.unusedVariables false
namespace Go.Proofs.YtihmcipajjakgaaGreatDoor
open Go.Proofs Go.IntWalk Go.RowKit
variable {σ : Out} {w : World} {L L' : List Chunk} {R : Ending → World → Prop}
structure TF where
  q : Option Addr
  n : Nat
  c : Nat
  vs : List Value
  RM : List Chunk
  KM : List Chunk
  KM' : List Chunk
  f : List UInt8 → List UInt8
def TF.ok (t : TF) : Prop := Sl 1 ty_Inline t.q t.n t.c t.vs t.RM ∧ t.n < 1073741824 ∧ PrintsL "PrintHTML" t.vs t.KM t.KM' t.f
def fill (x : TX) (t : TF) : List Chunk := textC x.t x.s x.e t.q t.n t.c x.raw :: (t.RM ++ t.KM)
def fill' (x : TX) (t : TF) : List Chunk := textC x.t x.s x.e t.q t.n t.c x.raw :: (t.RM ++ t.KM')
def fills : List TX → List TF → List Chunk
  | x :: xs, t :: ts => fill x t ++ fills xs ts
  | _, _ => []
def fills' : List TX → List TF → List Chunk
  | x :: xs, t :: ts => fill' x t ++ fills' xs ts
  | _, _ => []
inductive Filled (F : List UInt8 → List UInt8 → List UInt8) : List TX → List TF → Prop where
  | nil : Filled F [] []
  | cons {x : TX} {t : TF} {xs : List TX} {ts : List TF} : t.ok → t.f = F x.raw → Filled F xs ts → Filled F (x :: xs) (t :: ts)
theorem Filled.split {F : List UInt8 → List UInt8 → List UInt8} : ∀ {xs ys : List TX} {ts : List TF}, Filled F (xs ++ ys) ts → ∃ ts1 ts2, ts = ts1 ++ ts2 ∧ Filled F xs ts1 ∧ Filled F ys ts2
  | [], ys, ts, h => ⟨[], ts, rfl, .nil, h⟩
  | x :: xs, ys, ts, h => by
    cases h with
    | cons h1 h2 h3 =>
      obtain ⟨ts1, ts2, rfl, h4, h5⟩ := h3.split
      exact ⟨_ :: ts1, ts2, rfl, .cons h1 h2 h4, h5⟩
theorem Filled.append {F : List UInt8 → List UInt8 → List UInt8} {xs ys : List TX} {ts us : List TF} (h1 : Filled F xs ts) (h2 : Filled F ys us) : Filled F (xs ++ ys) (ts ++ us) := by
  induction h1 with
  | nil => exact h2
  | cons a b _ ih => exact .cons a b ih
theorem fills_append {F : List UInt8 → List UInt8 → List UInt8} : ∀ {xs ys : List TX} {ts us : List TF}, Filled F xs ts → fills (xs ++ ys) (ts ++ us) = fills xs ts ++ fills ys us
  | _, _, _, _, .nil => rfl
  | _, _, _, _, .cons h1 h2 h3 => by simp only [List.cons_append, fills, List.append_assoc]; rw [fills_append h3]
theorem fills'_append {F : List UInt8 → List UInt8 → List UInt8} : ∀ {xs ys : List TX} {ts us : List TF}, Filled F xs ts → fills' (xs ++ ys) (ts ++ us) = fills' xs ts ++ fills' ys us
  | _, _, _, _, .nil => rfl
  | _, _, _, _, .cons h1 h2 h3 => by simp only [List.cons_append, fills', List.append_assoc]; rw [fills'_append h3]
def DB.shows (F : List UInt8 → List UInt8 → List UInt8) (d : DB) (g : List UInt8 → List UInt8) : Prop :=
  ∀ ts, Filled F d.txs ts → Prints "PrintHTML" d.v (d.own ++ fills d.txs ts) (d.own ++ fills' d.txs ts) g
inductive Show (F : List UInt8 → List UInt8 → List UInt8) : List DB → List (List UInt8 → List UInt8) → Prop where
  | nil : Show F [] []
  | cons {d : DB} {g : List UInt8 → List UInt8} {D : List DB} {gs : List (List UInt8 → List UInt8)} : d.shows F g → Show F D gs → Show F (d :: D) (g :: gs)
theorem Show.append {F : List UInt8 → List UInt8 → List UInt8} {D E : List DB} {gs hs : List (List UInt8 → List UInt8)} (h1 : Show F D gs) (h2 : Show F E hs) : Show F (D ++ E) (gs ++ hs) := by
  induction h1 with
  | nil => exact h2
  | cons h _ ih => exact .cons h ih
def compL : List (List UInt8 → List UInt8) → List UInt8 → List UInt8
  | [], l => l
  | g :: gs, l => compL gs (g l)
theorem docs_print {F : List UInt8 → List UInt8 → List UInt8} {D : List DB} {gs : List (List UInt8 → List UInt8)} (h : Show F D gs) : ∀ ts, Filled F (txsC D) ts →
    ∃ KM KM', PrintsL "PrintHTML" (D.map DB.v) KM KM' (compL gs) ∧ (∀ a, cnt a (ownC D ++ fills (txsC D) ts) = cnt a KM) := by
  induction h with
  | nil => intro ts ht; cases ht; exact ⟨[], [], .nil, fun a => rfl⟩
  | @cons d g D gs h1 h2 ih =>
    intro ts ht
    have e : txsC (d :: D) = d.txs ++ txsC D := by simp [txsC]
    rw [e] at ht ⊢
    obtain ⟨ts1, ts2, rfl, h3, h4⟩ := ht.split
    obtain ⟨KM, KM', h5, h6⟩ := ih ts2 h4
    refine ⟨_, _, .cons (h1 ts1 h3) h5, fun a => ?_⟩
    have := h6 a
    rw [fills_append h3, show ownC (d :: D) = d.own ++ ownC D by simp [ownC]]
    simp only [cnt_append] at this ⊢
    omega
theorem paraDB_shows {F : List UInt8 → List UInt8 → List UInt8} {nb t s e : Nat} {raw : List UInt8} : (paraDB nb t s e raw).shows F (fun l => F raw (l ++ pOpen) ++ pClose) := by
  intro ts ht
  cases ht with
  | cons h1 h2 h3 =>
    cases h3
    rw [← h2]
    have := para_prints (nb := nb) (t := t) (s := s) (e := e) (s' := s) (e' := e) (raw := raw) h1.1 (by have := h1.2.1; omega) h1.2.2
    simpa [paraDB, fills, fills', fill, fill'] using this
theorem texts_ok {b pb : Nat} {op : Opt} {F : List UInt8 → List UInt8 → List UInt8} {p : PS} {xs : List TX} {TM L0 : List Chunk} {lk : Option Nat} (h : Sat σ w (p.at b :: (TM ++ (xs.map TX.chunk ++ L)))) (ht : Txts p (xs.map TX.t) TM) (hpz : p.pz = some ⟨pb, 0, none⟩) (ho : op.at pb ∈ L) (hlk : p.links = lk) (hL0 : ∀ c ∈ L0, c ∈ L)
    (hLL : p.Lq = none ∧ p.Ln = 0 ∧ p.Lc = 0) (hI : ∀ x ∈ xs, InlineOKG lk L0 op x.raw (F x.raw))
    (hR : ∀ w (p' : PS) ts, p'.coreS = p.coreS → Filled F xs ts → Sat σ w (p'.at b :: (TM ++ (fills xs ts ++ L))) → g_Parser_parse.k4 R b w) :
    g_Parser_parse.l2 R (some ⟨pb, 0, none⟩) b p.tq p.tn p.tc (p.tn : Nat) 0 w := by
  have hn : p.tn = xs.length := by rw [ht.2.1, List.length_map]
  have hx : xs.length < 1048576 := by have := ht.2.2; rwa [List.length_map] at this
  intro Y hY
  have h00 := h
  clear h
  have key : ∀ (xs2 xs1 : List TX) ts1 w (p1 : PS), xs1 ++ xs2 = xs → p1.coreS = p.coreS → Filled F xs1 ts1 → Sat σ w (p1.at b :: (TM ++ (fills xs1 ts1 ++ (xs2.map TX.chunk ++ L)))) → Y (some ⟨pb, 0, none⟩) b p.tq p.tn p.tc (p.tn : Nat) (xs1.length : Nat) w := by
    intro xs2
    induction xs2 with
    | nil =>
      intro xs1 ts1 w p1 hxs hp1 hf h
      rw [List.append_nil] at hxs
      subst hxs
      have e1 : p1.Lq = none := by have := congrArg PS.Lq hp1; rw [show p1.Lq = p.Lq from this]; exact hLL.1
      have e2 : p1.Ln = 0 := by have := congrArg PS.Ln hp1; rw [show p1.Ln = p.Ln from this]; exact hLL.2.1
      have e3 : p1.Lc = 0 := by have := congrArg PS.Lc hp1; rw [show p1.Lc = p.Lc from this]; exact hLL.2.2
      have h : Sat σ w (p1.at b :: (TM ++ (fills xs1 ts1 ++ L))) := h
      have hm : op.at pb ∈ p1.at b :: (TM ++ (fills xs1 ts1 ++ L)) := by simp [ho]
      have fin : g_Parser_parse.k4 R b w := hR w p1 ts1 hp1 hf h
      refine hY _ _ _ _ _ _ _ _ (br_false (by simp; omega) (nilP_some ?_))
      simp only [Addr.add_lit, Nat.zero_add]
      refine ⟨op.task, Sat.ld h hm rfl, br_split (fun _ => ?_) (fun _ => fin)⟩
      refine ⟨_, _, _, Sat.ld h (.head _) (i := 10) rfl, ?_⟩
      rw [e1, e2, e3]
      intro Z hZ
      exact hZ _ _ _ _ _ _ _ (br_false rfl fin)
    | cons x xs2 ih =>
      intro xs1 ts1 w p1 hxs hp1 hf h
      have hlt : xs1.length < xs.length := by rw [← hxs]; simp
      obtain ⟨rb, sp, htq, rfl⟩ := ht.1.rowAt (by omega)
      refine hY _ _ _ _ _ _ _ _ (br_true (by simp; omega) ⟨by omega, by omega, ?_⟩)
      rw [htq]
      refine nilP_some ?_
      simp only [Addr.add_lit, Nat.zero_add, Int.toNat_natCast, Nat.mul_one]
      have hget : ((xs.map TX.t).map (fun t => Value.pointer (some ⟨t, 0, none⟩)) ++ sp)[xs1.length]? = some (.pointer (some ⟨x.t, 0, none⟩)) := by
        rw [List.getElem?_append_left (by simp; omega), ← hxs]; simp
      refine ⟨_, Sat.ld h (.tail _ (.head _)) hget, nilP_some ?_⟩
      simp only [Addr.add_lit, Nat.zero_add]
      have h : Sat σ w (p1.at b :: (x.chunk :: ([(rb, cel ((xs.map TX.t).map (fun t => Value.pointer (some ⟨t, 0, none⟩)) ++ sp) ty_P_Text)] ++ (fills xs1 ts1 ++ (xs2.map TX.chunk ++ L))))) := by
        rw [List.map_cons] at h
        exact h.re (by intro _; simp only [List.append_eq, cnt_append, cnt_cons, cnt_nil] <;> omega)
      refine ⟨_, Sat.ld h (.tail _ (.head _)) (i := 3) rfl, ?_⟩
      have hc : p1.pz = some ⟨pb, 0, none⟩ := by have := congrArg PS.pz hp1; rw [show p1.pz = p.pz from this]; exact hpz
      have hk : p1.links = lk := by have := congrArg PS.links hp1; rw [show p1.links = p.links from this]; exact hlk
      refine hI x (by rw [← hxs]; simp) σ _ b pb p1 _ w (fun c hc => by simp [hL0 c hc]) h hc (by simp [ho]) hk fun w p2 q n c vs RM KM KM' hp2 hS hn2 hP h => ⟨_, _, _, rfl, nilP_some ?_⟩
      have h : Sat σ w (textC x.t x.s x.e none 0 0 x.raw :: (p2.at b :: (RM ++ (KM ++ ([(rb, cel ((xs.map TX.t).map (fun t => Value.pointer (some ⟨t, 0, none⟩)) ++ sp) ty_P_Text)] ++ (fills xs1 ts1 ++ (xs2.map TX.chunk ++ L))))))) := by
        have h : Sat σ w (p2.at b :: (RM ++ (KM ++ (textC x.t x.s x.e none 0 0 x.raw :: ([(rb, cel ((xs.map TX.t).map (fun t => Value.pointer (some ⟨t, 0, none⟩)) ++ sp) ty_P_Text)] ++ (fills xs1 ts1 ++ (xs2.map TX.chunk ++ L))))))) := h
        exact h.re (by intro _; simp only [List.append_eq, cnt_append, cnt_cons, cnt_nil] <;> omega)
      refine h.stA 0 fun w h => ?_
      have h : Sat σ w (textC x.t x.s x.e q n c x.raw :: (p2.at b :: (RM ++ (KM ++ ([(rb, cel ((xs.map TX.t).map (fun t => Value.pointer (some ⟨t, 0, none⟩)) ++ sp) ty_P_Text)] ++ (fills xs1 ts1 ++ (xs2.map TX.chunk ++ L))))))) := h
      rw [i64_inc (by omega)]
      have hf2 : Filled F (xs1 ++ [x]) (ts1 ++ [⟨q, n, c, vs, RM, KM, KM', F x.raw⟩]) := hf.append (.cons ⟨hS, hn2, hP⟩ rfl .nil)
      have := ih (xs1 ++ [x]) _ w p2 (by rw [← hxs]; simp) (hp2.trans hp1) hf2 ?_
      · rw [List.length_append, List.length_singleton, htq] at this; exact this
      · rw [fills_append hf]
        show Sat σ w (p2.at b :: ([(rb, cel ((xs.map TX.t).map (fun t => Value.pointer (some ⟨t, 0, none⟩)) ++ sp) ty_P_Text)] ++ ((fills xs1 ts1 ++ ((textC x.t x.s x.e q n c x.raw :: (RM ++ KM)) ++ [])) ++ (xs2.map TX.chunk ++ L))))
        exact h.re (by intro _; simp only [List.append_eq, cnt_append, cnt_cons, cnt_nil] <;> omega)
  exact key xs [] [] w p rfl rfl .nil h00
end Go.Proofs.YtihmcipajjakgaaGreatDoor


set_option linter.unusedVariables false
namespace Go.Proofs.YtihmcipajjakgaaGreatDoor
open Go.Proofs Go.IntWalk Go.RowKit
variable {σ : Out} {w : World} {L L' : List Chunk} {R : Ending → World → Prop}
def methVB (P : Program) (t : TypeId) (name : String) (f : FuncId) : Bool :=
  match P.info? t with
  | some i => match i.methods.find? (·.name == name) with
    | some m => match m.path.toList with
      | [s] => s.deref && (match P.underlying s.struct with
        | some (.struct fields) => match fields[s.index]? with
          | some fd => Nat.beq fd.offset 0 && (match P.info? fd.type with
            | some ti => Nat.beq ti.size 2 && (match P.underlying fd.type with
              | some (.struct _) => (match m.func with | some (g, false) => Nat.beq g f | _ => false)
              | _ => false)
            | none => false)
          | none => false
        | _ => false)
      | _ => false
    | none => false
  | none => false
theorem methVB_run {P : Program} {t : TypeId} {name : String} {f : FuncId} (h : methVB P t name f = true) (b : Nat) (fuel : Nat) (w : World) {x y : Value} (hx : w.cell? ⟨b, 0, none⟩ = some x) (hy : w.cell? ⟨b, 1, none⟩ = some y) :
    (Go.method (fuel + 1) t (.pointer (some ⟨b, 0, none⟩)) name).run P w = .ok (f, .agg #[x, y]) w := by
  have hld : (loadCells ⟨b, 0, none⟩ 2).run P w = .ok #[x, y] w := by
    refine run_loadCells_list (P := P) (w := w) ⟨b, 0, none⟩ [x, y] ?_
    intro j v hj
    match j, hj with
    | 0, hj => cases hj; simpa [Addr.add] using hx
    | 1, hj => cases hj; simpa [Addr.add] using hy
  unfold methVB at h
  split at h
  · rename_i i hi
    split at h
    · rename_i m hm
      split at h
      · rename_i s hp
        simp only [Bool.and_eq_true] at h
        obtain ⟨hd, h⟩ := h
        split at h
        · rename_i fields hu
          split at h
          · rename_i fd hf
            simp only [Bool.and_eq_true] at h
            obtain ⟨h0, h⟩ := h
            have h0 := Nat.eq_of_beq_eq_true h0
            split at h
            · rename_i ti hti
              simp only [Bool.and_eq_true] at h
              obtain ⟨hsz, h⟩ := h
              have hsz := Nat.eq_of_beq_eq_true hsz
              split at h
              · rename_i fs hfu
                split at h
                · rename_i g hg
                  have hgf := Nat.eq_of_beq_eq_true h
                  subst hgf
                  simp [Go.method, typeInfo, hi, hm, hp, Go.follow, run_underlying hu, hf, hd, Go.Place.get, asAddr, Go.fieldPlace, sizeOf, hti, hsz, h0, hg, Go.receiverAt, run_underlying hfu, Addr.add_lit, loadVar, isAgg, hld]
                · cases h
              · cases h
            · cases h
          · cases h
        · cases h
      · cases h
    · cases h
  · cases h
theorem enter_methV {t : TypeId} {name : String} {f : FuncId} {b : Nat} {args : Array Value} {x y : Value} (hm : methVB P t name f = true) (hx : w.cell? ⟨b, 0, none⟩ = some x) (hy : w.cell? ⟨b, 1, none⟩ = some y) (h : callE P f (#[.agg #[x, y]] ++ args) R w) :
    enterE P (callMethod (.iface t (.pointer (some ⟨b, 0, none⟩))) name args) R w := by
  obtain ⟨n, hn⟩ := depth_succ P
  have hr := methVB_run hm b n w hx hy
  have e : (callMethod (.iface t (.pointer (some ⟨b, 0, none⟩))) name args).run P w = (callFunc f (#[.agg #[x, y]] ++ args)).run P w := by
    simp only [callMethod, Sem.run_bind, run_program, Result.andThen_ok, hn, hr]
  unfold enterE
  rw [e]
  exact h.imp (fun h => ⟨f, _, w, h.1 _ _, h.2⟩) id
theorem position_ok {s e : Int} (h : Sat σ w L) (hR : ∀ w, Sat σ w L → R (.returned (.agg #[.int .i64 s, .int .i64 e])) w) : callE P i_Position_Pos #[.agg #[.int .i64 s, .int .i64 e]] R w := by
  refine g_Position_Pos.sound ?_
  refine Sat.bx h fun b1 w h => ?_
  refine Sat.bx h fun b3 w h => ?_
  repeat (first | refine nilP_some ?_ | refine h.tk fun w h => ?_ | refine ⟨_, h.ldA, ?_⟩ | refine ⟨_, _, _, h.ldA, ?_⟩ | refine h.stA 0 fun w h => ?_ | refine h.stA 1 fun w h => ?_ | refine h.stA 2 fun w h => ?_ | refine h.stA 3 fun w h => ?_ | refine h.stA 4 fun w h => ?_ | refine h.stA 5 fun w h => ?_ | refine h.stA 6 fun w h => ?_ | refine h.bx fun b0 w h => ?_)
  exact hR _ h.tail.tail
theorem pos_Paragraph : methVB P ty_P_Paragraph "Pos" i_Position_Pos = true := by kernel_rfl
theorem pos_Item : methVB P ty_P_Item "Pos" i_Position_Pos = true := by kernel_rfl
def DB.posIs (d : DB) (s e : Nat) : Prop :=
  ∀ (σ : Out) (R : Ending → World → Prop) (L : List Chunk) (w : World), (∀ c ∈ d.own, c ∈ L) → Sat σ w L → (∀ w, Sat σ w L → R (.returned (.agg #[.int .i64 s, .int .i64 e])) w) → enterE P (callMethod d.v "Pos" #[]) R w
theorem posIs_of {t : TypeId} {b s e : Nat} {cs : List Value} {ty : TypeId} {d : DB} (hm : methVB P t "Pos" i_Position_Pos = true) (hv : d.v = .iface t (.pointer (some ⟨b, 0, none⟩))) (ho : (b, cel (.int .i64 s :: .int .i64 e :: cs) ty) ∈ d.own) : d.posIs s e := by
  intro σ R L w hL h hR
  rw [hv]
  have hmem := hL _ ho
  exact enter_methV hm (Sat.ld h hmem (i := 0) rfl) (Sat.ld h hmem (i := 1) rfl) (position_ok h hR)
end Go.Proofs.YtihmcipajjakgaaGreatDoor


set_option linter.unusedVariables false
namespace Go.Proofs.YtihmcipajjakgaaGreatDoor
open Go.Proofs Go.IntWalk Go.RowKit
variable {σ : Out} {w : World} {L L' : List Chunk} {R : Ending → World → Prop}
theorem bl102_pass {Xb : OA → Nat → WP} {b b1 : Nat} {p : PS} {M : List Chunk} {l l2 : Ln} (i : Nat) (hi : i < newsF.length) (h : Sat σ w (p.at b :: M ++ (l.at b1 :: L))) (hd : ∀ j (hj : j < newsF.length), j < i → Decl b p M l newsF[j]) (hl2 : l2.ok) (hb2 : l2.blank = false)
    (hP : ∀ w nb e (R' : Ending → World → Prop), Sat σ w (p.at b :: M ++ (l.at b1 :: (nb, cel newsC e) :: L)) →
      (∀ w L2 (p2 : PS), p2.depth < 1000000 ∧ 0 ≤ p2.depth → Sat σ w (l.at b1 :: p2.at b :: L2) → (∀ w, Sat σ w (l2.at b1 :: ({ p2 with depth := p2.depth + 1 } : PS).at b :: L2) → Xb (some ⟨b, 0, none⟩) b1 w) → R' (.returned (.tuple #[l2.val, .bool true])) w) → callE P newsF[i] #[.pointer (some ⟨b, 0, none⟩), l.val] R' w) :
    g_parseState_addLine.bl102 R Xb (some ⟨b, 0, none⟩) b1 w := by
  have hi8 : i < 8 := hi
  refine news_ok h fun w nb e h => ⟨_, _, _, rfl, ?_⟩
  intro Y hY
  have h : Sat σ w (p.at b :: M ++ (l.at b1 :: (nb, cel newsC e) :: L)) := h.re (by intro _; simp only [List.append_eq, cnt_append, cnt_cons, cnt_nil] <;> omega)
  refine news_rounds hY i 0 w (by omega) (by omega) (fun j hj _ h2 => hd j hj h2) h fun w h => ?_
  refine hY _ _ _ _ _ _ _ _ (br_true (by simp; omega) ⟨by omega, by omega, ?_⟩)
  have hf := List.getElem?_eq_getElem hi
  refine nilP_some ?_
  simp only [Addr.add_lit, Nat.zero_add, Int.toNat_natCast, Nat.mul_one]
  have h : Sat σ w (l.at b1 :: (nb, cel newsC e) :: (p.at b :: (M ++ L))) := h.re (by intro _; simp only [List.append_eq, cnt_append, cnt_cons, cnt_nil] <;> omega)
  refine ⟨_, Sat.ld h (.tail _ (.head _)) (newsC_get hf), ?_⟩
  refine ⟨_, Sat.ld h (.head _) rfl, _, Sat.ld h (.head _) rfl, _, Sat.ld h (.head _) rfl, _, Sat.ld h (.head _) rfl, _, Sat.ld h (.head _) rfl, ?_⟩
  have h : Sat σ w (p.at b :: M ++ (l.at b1 :: (nb, cel newsC e) :: L)) := h.re (by intro _; simp only [List.append_eq, cnt_append, cnt_cons, cnt_nil] <;> omega)
  refine enter_fn ?_
  refine hP w nb e _ h fun w L2 p2 hdep h hX => ⟨_, _, _, _, _, _, rfl, ?_⟩
  refine Sat.bx h fun b85 w h => ?_
  refine h.stA 0 fun w h => ?_
  refine h.stA 0 fun w h => ?_
  refine h.stA 0 fun w h => ?_
  refine h.stA 0 fun w h => ?_
  refine h.stA 0 fun w h => ?_
  have h : Sat σ w (l2.at b85 :: l.at b1 :: p2.at b :: L2) := h
  refine br_true rfl ?_
  refine ⟨_, h.ldA, ?_⟩
  refine ⟨_, h.ldA, ?_⟩
  refine ⟨_, h.ldA, ?_⟩
  refine ⟨_, h.ldA, ?_⟩
  refine ⟨_, h.ldA, ?_⟩
  refine h.stA 1 fun w h => ?_
  refine h.stA 1 fun w h => ?_
  refine h.stA 1 fun w h => ?_
  refine h.stA 1 fun w h => ?_
  refine h.stA 1 fun w h => ?_
  have h : Sat σ w (l2.at b85 :: l2.at b1 :: p2.at b :: L2) := h
  refine isBlank_ok h (.tail _ (.head _)) hl2 fun w h => ⟨_, rfl, ?_⟩
  rw [hb2]
  refine br_false rfl (nilP_some ?_)
  refine ⟨_, h.ldA, ?_⟩
  refine nilP_some ?_
  rw [i64_in _ (by omega)]
  refine Sat.st h (k := 2) rfl (by simp [PS.cells]) trivial rfl fun w h => ?_
  have h : Sat σ w (l2.at b85 :: l2.at b1 :: ({ p2 with depth := p2.depth + 1 } : PS).at b :: L2) := h
  exact hX w h.tail
end Go.Proofs.YtihmcipajjakgaaGreatDoor


set_option linter.unusedVariables false
namespace Go.Proofs.YtihmcipajjakgaaGreatDoor
open Go.Proofs Go.IntWalk Go.RowKit
variable {σ : Out} {w : World} {L L' : List Chunk} {R : Ending → World → Prop}
def Ln.bullet (l : Ln) : Option (UInt8 × Nat × Ln) :=
  if (l.strip 3 0).2.peek = 45 ∨ (l.strip 3 0).2.peek = 42 ∨ (l.strip 3 0).2.peek = 43 then
    match ((l.strip 3 0).2.trimC (l.strip 3 0).2.peek).bind (·.trimSp 1 1 true) with
    | none => none
    | some t2 => match (t2.strip 3 0).2.trimSp 1 1 true with
      | none => some ((l.strip 3 0).2.peek, (l.strip 3 0).1 + 2 + (t2.strip 3 0).1, (t2.strip 3 0).2)
      | some _ => some ((l.strip 3 0).2.peek, (l.strip 3 0).1 + 2, t2)
  else none
theorem Ln.bullet_ok {l t : Ln} {c : UInt8} {n : Nat} (hl : l.ok) (h : l.bullet = some (c, n, t)) : t.ok ∧ n ≤ 8 ∧ (c = 45 ∨ c = 42 ∨ c = 43) := by
  unfold Ln.bullet at h
  have h0 := Ln.strip_ok 3 0 hl
  split at h
  · rename_i hc
    split at h
    · cases h
    · rename_i t2 h2
      obtain ⟨t1, e1, e2⟩ := Option.bind_eq_some_iff.1 h2
      have o2 := Ln.trimSp_ok (Ln.trimC_ok h0.1 e1) e2
      have h3 := Ln.strip_ok 3 0 o2
      split at h
      · simp only [Option.some.injEq, Prod.mk.injEq] at h
        obtain ⟨rfl, rfl, rfl⟩ := h
        exact ⟨h3.1, by omega, hc⟩
      · simp only [Option.some.injEq, Prod.mk.injEq] at h
        obtain ⟨rfl, rfl, rfl⟩ := h
        exact ⟨o2, by omega, hc⟩
  · cases h
theorem slItem_k8 {b : Nat} {q : Option Addr} {l t : Ln} {c : UInt8} {n : Nat} (h : Sat σ w (l.at b :: L)) (hl : l.ok) (hb : l.bullet = some (c, n, t))
    (hK : ∀ w b0 b1 b2 (t' : Ln), Sat σ w (t.at b0 :: (b1, cel [.pointer q] ty_P_parseState) :: t'.at b2 :: l.at b :: L) → g_parseState_startListItem.k8 R b1 b0 (n : Nat) (c.toNat : Int) 0 w) :
    callE P i_parseState_startListItem #[.pointer q, .pointer (some ⟨b, 0, none⟩)] R w := by
  refine g_parseState_startListItem.sound ?_
  refine Sat.bx h fun b1 w h => ?_
  repeat (first | refine nilP_some ?_ | refine h.tk fun w h => ?_ | refine ⟨_, h.ldA, ?_⟩ | refine ⟨_, _, _, h.ldA, ?_⟩ | refine h.stA 0 fun w h => ?_ | refine h.stA 1 fun w h => ?_ | refine h.stA 2 fun w h => ?_ | refine h.stA 3 fun w h => ?_ | refine h.stA 4 fun w h => ?_ | refine h.stA 5 fun w h => ?_ | refine h.stA 6 fun w h => ?_ | refine h.bx fun b0 w h => ?_)
  have h : Sat σ _ (l.at b0 :: (b1, cel [.pointer q] ty_P_parseState) :: l.at b :: L) := h
  have k6 : ∀ (t2 t3 : Ln) (n0 m : Nat) b2 w, n0 ≤ 100 → m ≤ 100 → t2.ok → t3.ok → (match t3.trimSp 1 1 true with | none => some (c, n0 + m, t3) | some _ => some (c, n0, t2)) = some (c, n, t) →
      Sat σ w (t2.at b0 :: (b1, cel [.pointer q] ty_P_parseState) :: t3.at b2 :: l.at b :: L) → g_parseState_startListItem.k6 R b1 b0 (n0 : Nat) (c.toNat : Int) 0 b2 (m : Nat) w := by
    intro t2 t3 n0 m b2 w hn0 hm o2 o3 he h
    have h : Sat σ w (t3.at b2 :: t2.at b0 :: (b1, cel [.pointer q] ty_P_parseState) :: l.at b :: L) := h.re (by intro _; simp only [List.append_eq, cnt_append, cnt_cons, cnt_nil] <;> omega)
    refine YtihmcipajjakgaaGreatDoor.trimSp_ok (min := 1) (max := 1) h o3 (by decide) (by decide) ?_
    cases hs : t3.trimSp 1 1 true with
    | none =>
      rw [hs] at he
      simp only [Option.some.injEq, Prod.mk.injEq, true_and] at he
      obtain ⟨rfl, rfl⟩ := he
      intro w h
      refine ⟨_, rfl, br_true rfl ?_⟩
      refine ⟨_, h.ldA, ?_⟩
      refine ⟨_, h.ldA, ?_⟩
      refine ⟨_, h.ldA, ?_⟩
      refine ⟨_, h.ldA, ?_⟩
      refine ⟨_, h.ldA, ?_⟩
      refine h.stA 1 fun w h => ?_
      refine h.stA 1 fun w h => ?_
      refine h.stA 1 fun w h => ?_
      refine h.stA 1 fun w h => ?_
      refine h.stA 1 fun w h => ?_
      rw [show ((n0 : Nat) : Int) + ((m : Nat) : Int) = ((n0 + m : Nat) : Int) by omega, i64_in _ (by omega)]
      have h : Sat σ w (t3.at b2 :: t3.at b0 :: (b1, cel [.pointer q] ty_P_parseState) :: l.at b :: L) := h
      exact hK w b0 b1 b2 t3 (h.re (by intro _; simp only [List.append_eq, cnt_append, cnt_cons, cnt_nil] <;> omega))
    | some t4 =>
      rw [hs] at he
      simp only [Option.some.injEq, Prod.mk.injEq, true_and] at he
      obtain ⟨rfl, rfl⟩ := he
      intro w h
      refine ⟨_, rfl, br_false rfl ?_⟩
      exact hK w b0 b1 b2 t4 (h.re (by intro _; simp only [List.append_eq, cnt_append, cnt_cons, cnt_nil] <;> omega))
  have fin : ∀ (n0 : Nat) (t0 : Ln) w, t0.ok → n0 ≤ 3 → l.strip 3 0 = (n0, t0) → Sat σ w (t0.at b0 :: (b1, cel [.pointer q] ty_P_parseState) :: l.at b :: L) → g_parseState_startListItem.k1 R b1 b0 (n0 : Nat) w := by
    intro n0 t0 w o0 hn0 hst h
    unfold Ln.bullet at hb
    rw [hst] at hb
    simp only at hb
    split at hb
    case isFalse => cases hb
    rename_i hc
    refine peek_ok h (by first | assumption | (repeat (first | exact .head _ | apply List.Mem.tail))) o0 fun w h => ⟨_, rfl, ?_⟩
    split at hb
    case h_1 => cases hb
    rename_i t2 h2
    obtain ⟨t1, e1, e2⟩ := Option.bind_eq_some_iff.1 h2
    have ec : t0.peek = c := by
      split at hb <;> simp only [Option.some.injEq, Prod.mk.injEq] at hb <;> exact hb.1
    rw [ec] at hc e1 hb ⊢
    have o1 := Ln.trimC_ok o0 e1
    have o2 := Ln.trimSp_ok o1 e2
    have k2 : g_parseState_startListItem.k2 R b1 b0 (n0 : Nat) (c.toNat : Int) 0 (c.toNat : Int) true w := by
      refine br_true rfl ?_
      refine trimC_ok (c := c) rfl h o0 ?_
      rw [e1]
      intro w h
      refine ⟨_, rfl, ?_⟩
      unfold g_parseState_startListItem.k3
      refine YtihmcipajjakgaaGreatDoor.trimSp_ok (min := 1) (max := 1) h o1 (by decide) (by decide) ?_
      rw [e2]
      intro w h
      refine ⟨_, rfl, br_false rfl ?_⟩
      refine ⟨_, h.ldA, ?_⟩
      refine ⟨_, h.ldA, ?_⟩
      refine ⟨_, h.ldA, ?_⟩
      refine ⟨_, h.ldA, ?_⟩
      refine ⟨_, h.ldA, ?_⟩
      refine Sat.bx h fun b2 w h => ?_
      refine h.stA 0 fun w h => ?_
      refine h.stA 0 fun w h => ?_
      refine h.stA 0 fun w h => ?_
      refine h.stA 0 fun w h => ?_
      refine h.stA 0 fun w h => ?_
      have h : Sat σ w (t2.at b2 :: t2.at b0 :: (b1, cel [.pointer q] ty_P_parseState) :: l.at b :: L) := h
      rw [i64_inc (by omega), i64_inc (by omega)]
      intro X hX
      have loop : ∀ k m (t3 : Ln) w, t3.ok → k + m = 3 → t3.strip k m = t2.strip 3 0 → Sat σ w (t3.at b2 :: t2.at b0 :: (b1, cel [.pointer q] ty_P_parseState) :: l.at b :: L) → X b1 b0 ((n0 + 1 + 1 : Nat) : Int) (c.toNat : Int) 0 b2 (m : Nat) (m : Nat) w := by
        intro k m t3 w o3 hk hs3 h
        induction k generalizing m t3 w with
        | zero =>
          have hs3 : (m, t3) = t2.strip 3 0 := hs3
          refine hX _ _ _ _ _ _ _ _ _ (br_false (by simp; omega) ?_)
          rw [← hs3] at hb
          exact k6 t2 t3 (n0 + 1 + 1) m b2 w (by omega) (by omega) o2 o3 hb (h.re (by intro _; simp only [List.append_eq, cnt_append, cnt_cons, cnt_nil] <;> omega))
        | succ k ih =>
          refine hX _ _ _ _ _ _ _ _ _ (br_true (by simp; omega) ?_)
          refine YtihmcipajjakgaaGreatDoor.trimSp_ok (min := 1) (max := 1) h o3 (by decide) (by decide) ?_
          simp only [Ln.strip] at hs3
          cases hs : t3.trimSp 1 1 false with
          | none =>
            rw [hs] at hs3
            have hs3 : (m, t3) = t2.strip 3 0 := hs3
            rw [← hs3] at hb
            exact fun w h => ⟨_, rfl, br_false rfl (k6 t2 t3 (n0 + 1 + 1) m b2 w (by omega) (by omega) o2 o3 hb (h.re (by intro _; simp only [List.append_eq, cnt_append, cnt_cons, cnt_nil] <;> omega)))⟩
          | some t' =>
            rw [hs] at hs3
            intro w h
            refine ⟨_, rfl, br_true rfl ?_⟩
            unfold g_parseState_startListItem.k5
            rw [i64_inc (by omega)]
            exact ih (m + 1) t' w (Ln.trimSp_ok o3 hs) (by omega) hs3 h
      exact loop 3 0 t2 w o2 rfl rfl h
    by_cases h45 : c = 45
    · subst h45; exact br_true rfl k2
    refine br_false (beqf (d := 45) rfl h45) ?_
    by_cases h42 : c = 42
    · subst h42; exact br_true rfl k2
    refine br_false (beqf (d := 42) rfl h42) ?_
    have h43 : c = 43 := by
      rcases hc with h | h | h
      · exact absurd h h45
      · exact absurd h h42
      · exact h
    rw [show (((c.toNat : Nat) : Int) == 43) = true by rw [h43]; rfl]
    exact k2
  intro X hX
  have loop : ∀ k n (t : Ln) w, t.ok → k + n = 3 → t.strip k n = l.strip 3 0 → Sat σ w (t.at b0 :: (b1, cel [.pointer q] ty_P_parseState) :: l.at b :: L) → X b1 b0 n n w := by
    intro k n t w ht hk hp h
    induction k generalizing n t w with
    | zero => exact hX _ _ _ _ _ (br_false (by simp; omega) (fin n t w ht (by omega) hp.symm h))
    | succ k ih =>
      refine hX _ _ _ _ _ (br_true (by simp; omega) ?_)
      refine YtihmcipajjakgaaGreatDoor.trimSp_ok (min := 1) (max := 1) h ht (by decide) (by decide) ?_
      simp only [Ln.strip] at hp
      cases hs : t.trimSp 1 1 false with
      | none =>
        rw [hs] at hp
        exact fun w h => ⟨_, rfl, br_true rfl (fin n t w ht (by omega) hp.symm h)⟩
      | some t' =>
        rw [hs] at hp
        intro w h
        refine ⟨_, rfl, br_false rfl ?_⟩
        rw [i64_inc (by omega)]
        exact ih (n + 1) t' w (Ln.trimSp_ok ht hs) (by omega) hp h
  exact loop 3 0 l _ hl rfl rfl h
end Go.Proofs.YtihmcipajjakgaaGreatDoor


set_option linter.unusedVariables false
namespace Go.Proofs.YtihmcipajjakgaaGreatDoor
open Go.Proofs Go.IntWalk Go.RowKit
variable {σ : Out} {w : World} {L L' : List Chunk} {R : Ending → World → Prop}
def lisC (lb : Nat) (bul num : Int) (loose : Bool) (item : Option Addr) (todo : Value) : Chunk := (lb, cel [.int .i32 bul, .int .i64 num, .bool loose, .pointer item, todo] ty_listBuilder)
def lisV (lb : Nat) : Value := .iface ty_P_listBuilder (.pointer (some ⟨lb, 0, none⟩))
def iteC (ib lb n : Nat) (hv : Bool) : Chunk := (ib, cel [.pointer (some ⟨lb, 0, none⟩), .int .i64 n, .bool hv] ty_itemBuilder)
def iteV (ib : Nat) : Value := .iface ty_P_itemBuilder (.pointer (some ⟨ib, 0, none⟩))
def cloV (x2 x18 x15 x5 : Nat) : Value := .func (.func i_parseState_startListItem_1) #[] #[.pointer (some ⟨x2, 0, none⟩), .pointer (some ⟨x18, 0, none⟩), .pointer (some ⟨x15, 0, none⟩), .pointer (some ⟨x5, 0, none⟩)]
abbrev lptC (x lb : Nat) : Chunk := (x, cel [.pointer (some ⟨lb, 0, none⟩)] ty_P_listBuilder)
abbrev iptC (x ib : Nat) : Chunk := (x, cel [.pointer (some ⟨ib, 0, none⟩)] ty_P_itemBuilder)
theorem slItem_k13 {x2 x5 x15 lb n : Nat} {bul num : Int} {loose : Bool} {item : Option Addr} {td : Value} {t : Ln} (h : Sat σ w (lisC lb bul num loose item td :: t.at x5 :: lptC x15 lb :: L)) (ht : t.ok)
    (hR : ∀ w x18 ib, Sat σ w (lisC lb bul num loose item (cloV x2 x18 x15 x5) :: t.at x5 :: lptC x15 lb :: iptC x18 ib :: iteC ib lb n (!t.blank) :: L) → R (.returned (.bool true)) w) :
    g_parseState_startListItem.k13 R x2 x5 (n : Nat) x15 w := by
  have k14 : ∀ w x18 ib, Sat σ w (lisC lb bul num loose item td :: t.at x5 :: lptC x15 lb :: iptC x18 ib :: iteC ib lb n (!t.blank) :: L) → g_parseState_startListItem.k14 R x2 x5 x15 x18 w := by
    intro w x18 ib h
    refine ⟨_, Sat.ld h (.tail _ (.tail _ (.head _))) (i := 0) rfl, nilP_some ?_⟩
    refine h.stA 0 fun w h => ?_
    exact hR w x18 ib h
  have hm : lptC x15 lb ∈ (lisC lb bul num loose item td :: t.at x5 :: lptC x15 lb :: L) := .tail _ (.tail _ (.head _))
  refine Sat.tk h fun w h => ⟨some ⟨lb, 0, none⟩, Sat.ld h hm (i := 0) rfl, ?_, ?_⟩
  · have h0 := h
    refine isBlank_ok h (.tail _ (.head _)) ht fun w h => ⟨_, rfl, h0.same h hm hm 1, ?_, ?_⟩
    · refine Sat.bx h fun ib w h => ?_
      have h1 := h
      refine Sat.bx h fun x18 w h => ⟨h1.same h (.tail _ hm) (.tail _ (.tail _ hm)) 1, ?_⟩
      refine h.stA 0 fun w h => ?_
      have h : Sat σ w (iptC x18 ib :: iteC ib lb n (!t.blank) :: (lisC lb bul num loose item td :: t.at x5 :: lptC x15 lb :: L)) := h
      exact k14 w x18 ib (h.re (by intro _; simp only [List.append_eq, cnt_append, cnt_cons, cnt_nil] <;> omega))
    · have h1 := h
      refine Sat.bx h fun x18 w h => ⟨h1.same h hm (.tail _ hm) 1, ?_⟩
      refine Sat.bx h fun ib w h => ?_
      have h : Sat σ w ((x18, cel [.pointer none] ty_P_itemBuilder) :: iteC ib lb n (!t.blank) :: (lisC lb bul num loose item td :: t.at x5 :: lptC x15 lb :: L)) := h.re (by intro _; simp only [iteC, List.append_eq, cnt_append, cnt_cons, cnt_nil] <;> omega)
      refine h.stA 0 fun w h => ?_
      have h : Sat σ w (iptC x18 ib :: iteC ib lb n (!t.blank) :: (lisC lb bul num loose item td :: t.at x5 :: lptC x15 lb :: L)) := h
      exact k14 w x18 ib (h.re (by intro _; simp only [List.append_eq, cnt_append, cnt_cons, cnt_nil] <;> omega))
  · have h1 := h
    refine Sat.bx h fun x18 w h => ⟨h1.same h hm (.tail _ hm) 1, ?_⟩
    have h0 := h
    refine isBlank_ok h (.tail _ (.tail _ (.head _))) ht fun w h => ⟨_, rfl, h0.same h (.tail _ hm) (.tail _ hm) 1, ?_⟩
    refine Sat.bx h fun ib w h => ?_
    have h : Sat σ w ((x18, cel [.pointer none] ty_P_itemBuilder) :: iteC ib lb n (!t.blank) :: (lisC lb bul num loose item td :: t.at x5 :: lptC x15 lb :: L)) := h.re (by intro _; simp only [iteC, List.append_eq, cnt_append, cnt_cons, cnt_nil] <;> omega)
    refine h.stA 0 fun w h => ?_
    have h : Sat σ w (iptC x18 ib :: iteC ib lb n (!t.blank) :: (lisC lb bul num loose item td :: t.at x5 :: lptC x15 lb :: L)) := h
    exact k14 w x18 ib (h.re (by intro _; simp only [List.append_eq, cnt_append, cnt_cons, cnt_nil] <;> omega))
theorem und_PlB : P.underlying ty_P_listBuilder = some (.pointer ty_listBuilder) := by kernel_rfl
theorem und_PpB : P.underlying ty_P_paraBuilder = some (.pointer ty_paraBuilder) := by kernel_rfl
theorem ta_nil_list (w : World) : (Instr.typeAssert .nilIface ty_blockBuilder ty_P_listBuilder true).run P w = .ok (.tuple #[.pointer none, .bool false]) w := by
  have hi : P.info? ty_P_listBuilder = some ((P.info? ty_P_listBuilder).getD default) := by kernel_rfl
  have hz : ((P.info? ty_P_listBuilder).getD default).zero = some (.pointer none) := by kernel_rfl
  generalize (P.info? ty_P_listBuilder).getD default = i at hi hz
  simp [Instr.typeAssert, run_underlying und_PlB, zeroValue, typeInfo, hi, hz]
theorem ta_list_list (q : Option Addr) (w : World) : (Instr.typeAssert (.iface ty_P_listBuilder (.pointer q)) ty_blockBuilder ty_P_listBuilder true).run P w = .ok (.tuple #[.pointer q, .bool true]) w :=
  ta_yes (by rw [und_PlB]; intro ms h; cases h) und_PlB w
theorem slItem_new {b b1 : Nat} {p : PS} {ob : List OB} {o : OB} {M : List Chunk} {l t : Ln} {c : UInt8} {n : Nat} {ty : TypeId} {v : Value} (h : Sat σ w (l.at b1 :: (p.at b :: M ++ L))) (hs : Stk p (ob ++ [o]) M) (hd : p.depth = ob.length) (hob : ob.length < 1048570)
    (ho : o.bd = .iface ty v) (hty : ty ≠ ty_P_paraBuilder) (hl : l.ok) (hb : l.bullet = some (c, n, t))
    (hR : ∀ w p' M' lb x2 x5 x15 x18 ib, p' = { p with stq := p'.stq, stn := ob.length + 2, stc := p'.stc } → Stk p' (ob ++ [o] ++ [⟨lisV lb, none, 0, 0, p.lineno, p.lineno⟩]) M' →
      Sat σ w (l.at b1 :: (p'.at b :: M' ++ (lisC lb c.toNat 0 false none (cloV x2 x18 x15 x5) :: (x2, cel [.pointer (some ⟨b, 0, none⟩)] ty_P_parseState) :: t.at x5 :: lptC x15 lb :: iptC x18 ib :: iteC ib lb n (!t.blank) :: L))) → R (.returned (.bool true)) w) :
    callE P i_parseState_startListItem #[.pointer (some ⟨b, 0, none⟩), .pointer (some ⟨b1, 0, none⟩)] R w := by
  obtain ⟨ht, hn8, hc⟩ := Ln.bullet_ok hl hb
  refine slItem_k8 h hl hb fun w x5 x2 x12 t' h => ?_
  refine Sat.bx h fun x15 w h => ?_
  refine ⟨_, Sat.ld h (.tail _ (.tail _ (.head _))) (i := 0) rfl, ?_⟩
  have h : Sat σ w (p.at b :: M ++ ((x15, cel [.pointer none] ty_P_listBuilder) :: (x2, cel [.pointer (some ⟨b, 0, none⟩)] ty_P_parseState) :: t.at x5 :: t'.at x12 :: l.at b1 :: L)) := h.re (by intro _; simp only [List.append_eq, cnt_append, cnt_cons, cnt_nil] <;> omega)
  refine nextB_ok (d := ob.length) h hs hd (by omega) fun w h => ⟨_, rfl, ?_⟩
  rw [List.getElem?_eq_none (by simp)]
  refine ⟨none, false, w, ta_nil_list w, br_false rfl ?_⟩
  have h : Sat σ w ((x15, cel [.pointer none] ty_P_listBuilder) :: (x2, cel [.pointer (some ⟨b, 0, none⟩)] ty_P_parseState) :: t.at x5 :: (p.at b :: M ++ (t'.at x12 :: l.at b1 :: L))) := h.re (by intro _; simp only [List.append_eq, cnt_append, cnt_cons, cnt_nil] <;> omega)
  refine ⟨_, Sat.ld h (.head _) (i := 0) rfl, _, _, ptrNil_eq und_PlB _ w, br_true rfl (br_true rfl ?_)⟩
  refine ⟨_, Sat.ld h (.head _) (i := 0) rfl, _, _, ptrNil_eq und_PlB _ w, br_true rfl ?_⟩
  refine ⟨_, Sat.ld h (.tail _ (.head _)) (i := 0) rfl, ?_⟩
  have h : Sat σ w (p.at b :: M ++ ((x15, cel [.pointer none] ty_P_listBuilder) :: (x2, cel [.pointer (some ⟨b, 0, none⟩)] ty_P_parseState) :: t.at x5 :: t'.at x12 :: l.at b1 :: L)) := h.re (by intro _; simp only [List.append_eq, cnt_append, cnt_cons, cnt_nil] <;> omega)
  refine top_ok h hs ho (fun w h => ?_) (fun hh => absurd hh hty)
  rw [if_neg hty]
  refine ⟨none, rfl, _, w, neq_ptr_nil und_PpB none w, br_false rfl (br_false rfl ?_)⟩
  refine Sat.bx h fun lb w h => ?_
  have h : Sat σ w ((x15, cel [.pointer none] ty_P_listBuilder) :: (lb, cel [.int .i32 (IntKind.i32.wrap (c.toNat : Nat)), .int .i64 0, .bool false, .pointer none, .nilFunc] ty_listBuilder) :: (x2, cel [.pointer (some ⟨b, 0, none⟩)] ty_P_parseState) :: t.at x5 :: (p.at b :: M ++ (t'.at x12 :: l.at b1 :: L))) := h.re (by intro _; simp only [List.append_eq, cnt_append, cnt_cons, cnt_nil] <;> omega)
  refine h.stA 0 fun w h => ?_
  have hw : IntKind.i32.wrap ((c.toNat : Nat) : Int) = ((c.toNat : Nat) : Int) := by
    rcases hc with rfl | rfl | rfl <;> rfl
  rw [hw] at h
  have h : Sat σ w (lptC x15 lb :: lisC lb c.toNat 0 false none .nilFunc :: (x2, cel [.pointer (some ⟨b, 0, none⟩)] ty_P_parseState) :: t.at x5 :: (p.at b :: M ++ (t'.at x12 :: l.at b1 :: L))) := h
  refine ⟨_, Sat.ld h (.tail _ (.tail _ (.head _))) (i := 0) rfl, _, Sat.ld h (.head _) (i := 0) rfl, ?_⟩
  have h : Sat σ w (p.at b :: M ++ (lptC x15 lb :: lisC lb c.toNat 0 false none .nilFunc :: (x2, cel [.pointer (some ⟨b, 0, none⟩)] ty_P_parseState) :: t.at x5 :: (t'.at x12 :: l.at b1 :: L))) := h.re (by intro _; simp only [List.append_eq, cnt_append, cnt_cons, cnt_nil] <;> omega)
  refine addBlock_ok h hs (by simp; omega) (by simp; omega) fun w p' M' hp' hs' h => ⟨rfl, ?_⟩
  have h : Sat σ w (lisC lb c.toNat 0 false none .nilFunc :: t.at x5 :: lptC x15 lb :: (p'.at b :: M' ++ ((x2, cel [.pointer (some ⟨b, 0, none⟩)] ty_P_parseState) :: (t'.at x12 :: l.at b1 :: L)))) := h.re (by intro _; simp only [List.append_eq, cnt_append, cnt_cons, cnt_nil] <;> omega)
  refine slItem_k13 h ht fun w x18 ib h => ?_
  refine hR w p' M' lb x2 x5 x15 x18 ib (by rw [hp']; simp) hs' ?_
  exact h.less [t'.at x12] (by intro _; simp only [List.append_eq, cnt_append, cnt_cons, cnt_nil] <;> omega)
end Go.Proofs.YtihmcipajjakgaaGreatDoor


set_option linter.unusedVariables false
namespace Go.Proofs.YtihmcipajjakgaaGreatDoor
open Go.Proofs Go.IntWalk Go.RowKit
variable {σ : Out} {w : World} {L L' : List Chunk} {R : Ending → World → Prop}
theorem newList_first {b : Nat} {p : PS} {ob : List OB} {o : OB} {M : List Chunk} {l t : Ln} {c : UInt8} {n : Nat} {ty : TypeId} {v : Value} (h : Sat σ w (p.at b :: M ++ L)) (hs : Stk p (ob ++ [o]) M) (hd : p.depth = ob.length) (hob : ob.length < 1048570)
    (ho : o.bd = .iface ty v) (hty : ty ≠ ty_P_paraBuilder) (htl : ty ≠ ty_P_listBuilder) (hl : l.ok) (hb : l.bullet = some (c, n, t))
    (hR : ∀ w p' M' lb x2 x5 x15 x18 ib, p' = { p with stq := p'.stq, stn := ob.length + 2, stc := p'.stc } → Stk p' (ob ++ [o] ++ [⟨lisV lb, none, 0, 0, p.lineno, p.lineno⟩]) M' →
      Sat σ w (p'.at b :: M' ++ (lisC lb c.toNat 0 false none (cloV x2 x18 x15 x5) :: (x2, cel [.pointer (some ⟨b, 0, none⟩)] ty_P_parseState) :: t.at x5 :: lptC x15 lb :: iptC x18 ib :: iteC ib lb n (!t.blank) :: L)) → R (.returned (.tuple #[l.val, .bool true])) w) :
    callE P i_newListItem #[.pointer (some ⟨b, 0, none⟩), l.val] R w := by
  refine g_newListItem.sound ?_
  refine Sat.bx h fun b1 w h => ?_
  refine Sat.bx h fun b3 w h => ?_
  have h : Sat σ w (zLn b3 :: l.at b1 :: (p.at b :: M ++ L)) := h
  have h : Sat σ w (p.at b :: M ++ (zLn b3 :: l.at b1 :: L)) := h.re (by intro _; simp only [List.append_eq, cnt_append, cnt_cons, cnt_nil] <;> omega)
  refine curB_ok h hs hd fun w h => ?_
  rw [last_get]
  dsimp only
  refine ⟨_, rfl, none, false, w, by rw [ho]; exact ta_listBuilder_no htl w, br_false rfl (br_false rfl ?_)⟩
  have h : Sat σ w (l.at b1 :: (p.at b :: M ++ (zLn b3 :: L))) := h.re (by intro _; simp only [List.append_eq, cnt_append, cnt_cons, cnt_nil] <;> omega)
  refine slItem_new h hs hd hob ho hty hl hb fun w p' M' lb x2 x5 x15 x18 ib hp' hs' h => ⟨_, rfl, br_true rfl ?_⟩
  have h : Sat σ w (zLn b3 :: l.at b1 :: (p'.at b :: M' ++ (lisC lb c.toNat 0 false none (cloV x2 x18 x15 x5) :: (x2, cel [.pointer (some ⟨b, 0, none⟩)] ty_P_parseState) :: t.at x5 :: lptC x15 lb :: iptC x18 ib :: iteC ib lb n (!t.blank) :: L))) := h.re (by intro _; simp only [List.append_eq, cnt_append, cnt_cons, cnt_nil] <;> omega)
  repeat (first | refine nilP_some ?_ | refine h.tk fun w h => ?_ | refine ⟨_, h.ldA, ?_⟩ | refine ⟨_, _, _, h.ldA, ?_⟩ | refine h.stA 0 fun w h => ?_ | refine h.stA 1 fun w h => ?_ | refine h.stA 2 fun w h => ?_ | refine h.stA 3 fun w h => ?_ | refine h.stA 4 fun w h => ?_ | refine h.stA 5 fun w h => ?_ | refine h.stA 6 fun w h => ?_ | refine h.bx fun b0 w h => ?_)
  have h : Sat σ _ (l.at b3 :: l.at b1 :: (p'.at b :: M' ++ (lisC lb c.toNat 0 false none (cloV x2 x18 x15 x5) :: (x2, cel [.pointer (some ⟨b, 0, none⟩)] ty_P_parseState) :: t.at x5 :: lptC x15 lb :: iptC x18 ib :: iteC ib lb n (!t.blank) :: L))) := h
  exact hR _ p' M' lb x2 x5 x15 x18 ib hp' hs' h.tail.tail
theorem und_fline : isFuncB P ty_func_line = true := by kernel_rfl
theorem newList_todo {b lb x2 x5 x15 x18 ib n : Nat} {bul num : Int} {loose hv : Bool} {item : Option Addr} {p : PS} {ob : List OB} {o : OB} {M : List Chunk} {l t : Ln}
    (h : Sat σ w (p.at b :: M ++ (lisC lb bul num loose item (cloV x2 x18 x15 x5) :: (x2, cel [.pointer (some ⟨b, 0, none⟩)] ty_P_parseState) :: t.at x5 :: lptC x15 lb :: iptC x18 ib :: iteC ib lb n hv :: L)))
    (hs : Stk p (ob ++ [o]) M) (hd : p.depth = ob.length) (hob : ob.length < 1048570) (ho : o.bd = lisV lb)
    (hR : ∀ w p' M', p' = { p with stq := p'.stq, stn := ob.length + 2, stc := p'.stc } → Stk p' (ob ++ [o] ++ [⟨iteV ib, none, 0, 0, p.lineno, p.lineno⟩]) M' →
      Sat σ w (p'.at b :: M' ++ (lisC lb bul num loose (some ⟨ib, 0, none⟩) .nilFunc :: iteC ib lb n hv :: L)) → R (.returned (.tuple #[t.val, .bool true])) w) :
    callE P i_newListItem #[.pointer (some ⟨b, 0, none⟩), l.val] R w := by
  refine g_newListItem.sound ?_
  refine Sat.bx h fun b1 w h => ?_
  refine Sat.bx h fun b3 w h => ?_
  have h : Sat σ w (zLn b3 :: l.at b1 :: (p.at b :: M ++ (lisC lb bul num loose item (cloV x2 x18 x15 x5) :: (x2, cel [.pointer (some ⟨b, 0, none⟩)] ty_P_parseState) :: t.at x5 :: lptC x15 lb :: iptC x18 ib :: iteC ib lb n hv :: L))) := h
  have h : Sat σ w (p.at b :: M ++ (zLn b3 :: l.at b1 :: lisC lb bul num loose item (cloV x2 x18 x15 x5) :: (x2, cel [.pointer (some ⟨b, 0, none⟩)] ty_P_parseState) :: t.at x5 :: lptC x15 lb :: iptC x18 ib :: iteC ib lb n hv :: L)) := h.re (by intro _; simp only [List.append_eq, cnt_append, cnt_cons, cnt_nil] <;> omega)
  refine curB_ok h hs hd fun w h => ?_
  rw [last_get]
  dsimp only
  have h : Sat σ w (lisC lb bul num loose item (cloV x2 x18 x15 x5) :: zLn b3 :: l.at b1 :: (p.at b :: M ++ ((x2, cel [.pointer (some ⟨b, 0, none⟩)] ty_P_parseState) :: t.at x5 :: lptC x15 lb :: iptC x18 ib :: iteC ib lb n hv :: L))) := h.re (by intro _; simp only [List.append_eq, cnt_append, cnt_cons, cnt_nil] <;> omega)
  refine ⟨_, rfl, some ⟨lb, 0, none⟩, true, w, by rw [ho]; exact ta_list_list _ w, br_true rfl (nilP_some ?_)⟩
  obtain ⟨_, _, _, hfu⟩ := isFunc_out und_fline
  refine ⟨_, Sat.ld h (.head _) (i := 4) rfl, true, w, neq_func_nil hfu _ _ _ w, br_true rfl (nilP_some ?_)⟩
  refine ⟨_, Sat.ld h (.head _) (i := 4) rfl, ?_⟩
  refine enter_fn ?_
  refine g_parseState_startListItem_1.sound ?_
  refine Sat.bx h fun b5 w h => ?_
  have h : Sat σ w (p.at b :: M ++ (zLn b5 :: lisC lb bul num loose item (cloV x2 x18 x15 x5) :: zLn b3 :: l.at b1 :: (x2, cel [.pointer (some ⟨b, 0, none⟩)] ty_P_parseState) :: t.at x5 :: lptC x15 lb :: iptC x18 ib :: iteC ib lb n hv :: L)) := by
    have h : Sat σ w (zLn b5 :: lisC lb bul num loose item (cloV x2 x18 x15 x5) :: zLn b3 :: l.at b1 :: (p.at b :: M ++ ((x2, cel [.pointer (some ⟨b, 0, none⟩)] ty_P_parseState) :: t.at x5 :: lptC x15 lb :: iptC x18 ib :: iteC ib lb n hv :: L))) := h
    exact h.re (by intro _; simp only [List.append_eq, cnt_append, cnt_cons, cnt_nil] <;> omega)
  have hm2 : (x2, cel [.pointer (some ⟨b, 0, none⟩)] ty_P_parseState) ∈ p.at b :: M ++ (zLn b5 :: lisC lb bul num loose item (cloV x2 x18 x15 x5) :: zLn b3 :: l.at b1 :: (x2, cel [.pointer (some ⟨b, 0, none⟩)] ty_P_parseState) :: t.at x5 :: lptC x15 lb :: iptC x18 ib :: iteC ib lb n hv :: L) := by simp
  have hm18 : iptC x18 ib ∈ p.at b :: M ++ (zLn b5 :: lisC lb bul num loose item (cloV x2 x18 x15 x5) :: zLn b3 :: l.at b1 :: (x2, cel [.pointer (some ⟨b, 0, none⟩)] ty_P_parseState) :: t.at x5 :: lptC x15 lb :: iptC x18 ib :: iteC ib lb n hv :: L) := by simp
  refine ⟨_, Sat.ld h hm2 (i := 0) rfl, _, Sat.ld h hm18 (i := 0) rfl, ?_⟩
  refine addBlock_ok h hs (by simp; omega) (by simp; omega) fun w p' M' hp' hs' h => ⟨rfl, ?_⟩
  have h : Sat σ w (lisC lb bul num loose item (cloV x2 x18 x15 x5) :: zLn b5 :: t.at x5 :: zLn b3 :: l.at b1 :: lptC x15 lb :: iptC x18 ib :: (p'.at b :: M' ++ ((x2, cel [.pointer (some ⟨b, 0, none⟩)] ty_P_parseState) :: iteC ib lb n hv :: L))) := h.re (by intro _; simp only [List.append_eq, cnt_append, cnt_cons, cnt_nil] <;> omega)
  refine ⟨_, Sat.ld h (by simp : lptC x15 lb ∈ _) (i := 0) rfl, _, Sat.ld h (by simp : iptC x18 ib ∈ _) (i := 0) rfl, nilP_some ?_⟩
  refine h.stA 0 fun w h => ?_
  have h : Sat σ w (t.at x5 :: zLn b5 :: lisC lb bul num loose (some ⟨ib, 0, none⟩) (cloV x2 x18 x15 x5) :: zLn b3 :: l.at b1 :: lptC x15 lb :: iptC x18 ib :: (p'.at b :: M' ++ ((x2, cel [.pointer (some ⟨b, 0, none⟩)] ty_P_parseState) :: iteC ib lb n hv :: L))) := by
    have h : Sat σ w (lisC lb bul num loose (some ⟨ib, 0, none⟩) (cloV x2 x18 x15 x5) :: zLn b5 :: t.at x5 :: zLn b3 :: l.at b1 :: lptC x15 lb :: iptC x18 ib :: (p'.at b :: M' ++ ((x2, cel [.pointer (some ⟨b, 0, none⟩)] ty_P_parseState) :: iteC ib lb n hv :: L))) := h
    exact h.re (by intro _; simp only [List.append_eq, cnt_append, cnt_cons, cnt_nil] <;> omega)
  refine ⟨_, h.ldA, ?_⟩
  refine ⟨_, h.ldA, ?_⟩
  refine ⟨_, h.ldA, ?_⟩
  refine ⟨_, h.ldA, ?_⟩
  refine ⟨_, h.ldA, ?_⟩
  refine h.stA 1 fun w h => ?_
  refine h.stA 1 fun w h => ?_
  refine h.stA 1 fun w h => ?_
  refine h.stA 1 fun w h => ?_
  refine h.stA 1 fun w h => ?_
  have h : Sat σ w (t.at x5 :: t.at b5 :: lisC lb bul num loose (some ⟨ib, 0, none⟩) (cloV x2 x18 x15 x5) :: zLn b3 :: l.at b1 :: lptC x15 lb :: iptC x18 ib :: (p'.at b :: M' ++ ((x2, cel [.pointer (some ⟨b, 0, none⟩)] ty_P_parseState) :: iteC ib lb n hv :: L))) := h
  have h : Sat σ w (t.at b5 :: l.at b1 :: lisC lb bul num loose (some ⟨ib, 0, none⟩) (cloV x2 x18 x15 x5) :: zLn b3 :: t.at x5 :: lptC x15 lb :: iptC x18 ib :: (p'.at b :: M' ++ ((x2, cel [.pointer (some ⟨b, 0, none⟩)] ty_P_parseState) :: iteC ib lb n hv :: L))) := h.re (by intro _; simp only [List.append_eq, cnt_append, cnt_cons, cnt_nil] <;> omega)
  refine ⟨_, h.ldA, ?_⟩
  refine ⟨_, h.ldA, ?_⟩
  refine ⟨_, h.ldA, ?_⟩
  refine ⟨_, h.ldA, ?_⟩
  refine ⟨_, h.ldA, ?_⟩
  refine ⟨_, _, _, _, _, rfl, ?_⟩
  refine h.stA 1 fun w h => ?_
  refine h.stA 1 fun w h => ?_
  refine h.stA 1 fun w h => ?_
  refine h.stA 1 fun w h => ?_
  refine h.stA 1 fun w h => ?_
  have h : Sat σ w (t.at b5 :: t.at b1 :: lisC lb bul num loose (some ⟨ib, 0, none⟩) (cloV x2 x18 x15 x5) :: zLn b3 :: t.at x5 :: lptC x15 lb :: iptC x18 ib :: (p'.at b :: M' ++ ((x2, cel [.pointer (some ⟨b, 0, none⟩)] ty_P_parseState) :: iteC ib lb n hv :: L))) := h
  refine nilP_some ?_
  refine Sat.st h (k := 2) rfl (by simp [lisC]) trivial rfl fun w h => ?_
  have h : Sat σ w (t.at b1 :: zLn b3 :: lisC lb bul num loose (some ⟨ib, 0, none⟩) .nilFunc :: t.at b5 :: t.at x5 :: lptC x15 lb :: iptC x18 ib :: (p'.at b :: M' ++ ((x2, cel [.pointer (some ⟨b, 0, none⟩)] ty_P_parseState) :: iteC ib lb n hv :: L))) := by
    have h : Sat σ w (t.at b5 :: t.at b1 :: lisC lb bul num loose (some ⟨ib, 0, none⟩) .nilFunc :: zLn b3 :: t.at x5 :: lptC x15 lb :: iptC x18 ib :: (p'.at b :: M' ++ ((x2, cel [.pointer (some ⟨b, 0, none⟩)] ty_P_parseState) :: iteC ib lb n hv :: L))) := h
    exact h.re (by intro _; simp only [List.append_eq, cnt_append, cnt_cons, cnt_nil] <;> omega)
  refine ⟨_, h.ldA, ?_⟩
  refine ⟨_, h.ldA, ?_⟩
  refine ⟨_, h.ldA, ?_⟩
  refine ⟨_, h.ldA, ?_⟩
  refine ⟨_, h.ldA, ?_⟩
  refine h.stA 1 fun w h => ?_
  refine h.stA 1 fun w h => ?_
  refine h.stA 1 fun w h => ?_
  refine h.stA 1 fun w h => ?_
  refine h.stA 1 fun w h => ?_
  have h : Sat σ w (t.at b1 :: t.at b3 :: lisC lb bul num loose (some ⟨ib, 0, none⟩) .nilFunc :: t.at b5 :: t.at x5 :: lptC x15 lb :: iptC x18 ib :: (p'.at b :: M' ++ ((x2, cel [.pointer (some ⟨b, 0, none⟩)] ty_P_parseState) :: iteC ib lb n hv :: L))) := h
  have h : Sat σ w (t.at b3 :: t.at b1 :: lisC lb bul num loose (some ⟨ib, 0, none⟩) .nilFunc :: t.at b5 :: t.at x5 :: lptC x15 lb :: iptC x18 ib :: (p'.at b :: M' ++ ((x2, cel [.pointer (some ⟨b, 0, none⟩)] ty_P_parseState) :: iteC ib lb n hv :: L))) := h.re (by intro _; simp only [List.append_eq, cnt_append, cnt_cons, cnt_nil] <;> omega)
  refine ⟨_, h.ldA, ?_⟩
  refine ⟨_, h.ldA, ?_⟩
  refine ⟨_, h.ldA, ?_⟩
  refine ⟨_, h.ldA, ?_⟩
  refine ⟨_, h.ldA, ?_⟩
  refine hR _ p' M' (by rw [hp']; simp) hs' ?_
  exact h.less [t.at b3, t.at b1, t.at b5, t.at x5, lptC x15 lb, iptC x18 ib, (x2, cel [.pointer (some ⟨b, 0, none⟩)] ty_P_parseState)] (by intro _; simp only [List.append_eq, cnt_append, cnt_cons, cnt_nil] <;> omega)
end Go.Proofs.YtihmcipajjakgaaGreatDoor


set_option linter.unusedVariables false
namespace Go.Proofs.YtihmcipajjakgaaGreatDoor
open Go.Proofs Go.IntWalk Go.RowKit
variable {σ : Out} {w : World} {L L' : List Chunk} {R : Ending → World → Prop}
theorem Sl.loadMem {q : Option Addr} {n c j : Nat} {e : TypeId} {vs : List Value} {RM : List Chunk} {v : Value} {K : Addr → Prop} (hS : Sl 1 e q n c vs RM) (h : Sat σ w L) (hM : ∀ x ∈ RM, x ∈ L) (hj : vs[j]? = some v)
    (hK : ∀ b, q = some ⟨b, 0, none⟩ → w.cell? ⟨b, j, none⟩ = some v → K ⟨b, 0, none⟩) : nilP q K := by
  obtain ⟨hl, _, ⟨rfl, rfl, _, _⟩ | ⟨rb, sp, rfl, rfl, _⟩⟩ := hS
  · have := (List.getElem?_eq_some_iff.1 hj).1; omega
  · refine nilP_some (hK rb rfl (h.ld (hM _ (.head _)) ?_))
    rw [List.getElem?_append_left (List.getElem?_eq_some_iff.1 hj).1]; exact hj
theorem closeB_k3 {b : Nat} {p1 : PS} {ob : List OB} {par o : OB} {M IM L1 : List Chunk} {inner : List Value} {tb : TypeId} {q : Option Addr} (h : Sat σ w (p1.at b :: M ++ (IM ++ L1))) (hs : Stk p1 (ob ++ [par] ++ [o]) M) (hI : Sl 1 ty_Block par.q par.n par.c inner IM) (hin : par.n < 1000000)
    (hR : ∀ w p2 M2 IM2 q' c', p2 = { p1 with stn := ob.length + 1 } → Stk p2 (ob ++ [{ par with q := q', n := par.n + 1, c := c' }]) M2 → Sl 1 ty_Block q' (par.n + 1) c' (inner ++ [.iface tb (.pointer q)]) IM2 →
      Sat σ w (p2.at b :: M2 ++ (IM2 ++ L1)) → R (.returned (.iface tb (.pointer q))) w) : g_parseState_closeBlock.k3 R (some ⟨b, 0, none⟩) (.iface tb (.pointer q)) w := by
  have hlt := hs.2.2
  have hn1 := hs.2.1
  have hcap := hs.1.2.1
  obtain ⟨sb, sp, hq1, rfl, hsp⟩ := hs.split (by simp)
  simp only [List.length_append, List.length_singleton] at hn1 hlt
  rw [hn1] at hcap
  unfold g_parseState_closeBlock.k3
  refine h.tk fun w h => ?_
  refine nilP_some (nilP_some ?_)
  refine ⟨_, _, _, h.ldA, ?_⟩
  refine ⟨_, _, _, h.ldA, ?_⟩
  rw [hn1, len_dec (by omega), hq1]
  refine ⟨_, _, _, fun w => sliceTo rowOB.ht rowOB.hi sb (ob.length + 1 + 1) p1.stc (ob.length + 1) (by omega) hcap w, ?_⟩
  refine nilP_some ?_
  refine h.stA 0 fun w h => ?_
  let p2 : PS := { p1 with stq := some ⟨sb, 0, none⟩, stn := ob.length + 1 }
  have hp2 : p2 = { p1 with stn := ob.length + 1 } := by simp only [p2, ← hq1]
  have h : Sat σ w (p2.at b :: [(sb, cel (obCells (ob ++ [par]) ++ (o.cells ++ sp)) ty_openBlock)] ++ (IM ++ L1)) := by
    rw [obCells_snoc, List.append_assoc] at h
    exact h
  refine nilP_some ?_
  refine ⟨_, _, _, h.ldA, ?_⟩
  refine br_true (by simp [p2]) ?_
  refine h.tk fun w h => ?_
  refine nilP_some (nilP_some ?_)
  refine ⟨_, _, _, h.ldA, ?_⟩
  refine ⟨_, _, _, h.ldA, ?_⟩
  rw [show p2.stn = ob.length + 1 from rfl, len_dec (by omega), show p2.stq = some ⟨sb, 0, none⟩ from rfl]
  refine ⟨by omega, by omega, nilP_some ?_⟩
  simp only [Addr.add_lit, Nat.zero_add, Int.toNat_natCast, Nat.add_zero]
  refine ⟨_, _, _, Sat.ld h (.tail _ (.head _)) (stk_get (f := 1) (by decide) (last_get par)), ?_⟩
  have h : Sat σ _ (IM ++ (p2.at b :: (sb, cel (obCells (ob ++ [par]) ++ (o.cells ++ sp)) ty_openBlock) :: L1)) := h.re (by intro _; simp only [List.append_eq, cnt_append, cnt_cons, cnt_nil] <;> omega)
  refine Sat.app1 rowBlock hI h (v := .iface tb (.pointer q)) rfl (by simp [Value.cells, Value.oneCell']) (by kernel_rfl) (by omega) (by omega) (by decide) fun q' c' w IM2 hI' h => ?_
  have h : Sat σ _ (p2.at b :: (sb, cel (obCells (ob ++ [par]) ++ (o.cells ++ sp)) ty_openBlock) :: (IM2 ++ L1)) := h.re (by intro _; simp only [List.append_eq, cnt_append, cnt_cons, cnt_nil] <;> omega)
  refine Sat.st h (k := 1) rfl (by rw [List.length_append, obCells_length, List.length_append, List.length_singleton]; omega) trivial rfl fun w h => ?_
  have e := stk_set (l := ob) (sp := o.cells ++ sp) (o := par) (o' := { par with q := q', n := par.n + 1, c := c' }) (f := 1) (v := .slice q' (par.n + 1) c') (by decide) rfl
  have h : Sat σ w (p2.at b :: (sb, cel (obCells (ob ++ [{ par with q := q', n := par.n + 1, c := c' }]) ++ (o.cells ++ sp)) ty_openBlock) :: (IM2 ++ L1)) := by
    rw [← e]; exact h
  have hs2 : Stk p2 (ob ++ [{ par with q := q', n := par.n + 1, c := c' }]) [(sb, cel (obCells (ob ++ [{ par with q := q', n := par.n + 1, c := c' }]) ++ (o.cells ++ sp)) ty_openBlock)] := by
    refine Stk.mk' rfl ?_ (by simp [p2]) (by simp; omega)
    show _ = p1.stc * 4
    rw [← hsp]
    simp only [List.length_append, obCells_length, List.length_singleton, OB.cells, List.length_cons, List.length_nil]
    omega
  refine hR w p2 _ IM2 q' c' hp2 hs2 hI' h
theorem closeB_build {b : Nat} {p : PS} {ob : List OB} {o : OB} {M : List Chunk} {t : TypeId} {v : Value} (h : Sat σ w (p.at b :: M ++ L)) (hs : Stk p (ob ++ [o]) M) (ho : o.bd = .iface t v)
    (hb : ∀ w, Sat σ w (p.at b :: M ++ L) → enterE P (callMethod o.bd "pub-paratext/pub/rscmarkdown.build" #[.iface ty_P_parseState (.pointer (some ⟨b, 0, none⟩))]) (fun e w15 => ∃ (r14 : Value), e = .returned r14 ∧
      ∃ (r16_0 : Option Addr), ∃ (r16_1 : Bool), ∃ w17, (Instr.typeAssert r14 ty_Block ty_P_List true).run P w15 = .ok (.tuple #[.pointer r16_0, .bool r16_1]) w17 ∧
      br r16_1 (nilP (some ⟨b, 0, none⟩) fun a18 => ∃ (v19 : Bool), w17.cell? (a18.add 6) = some (.bool v19) ∧ br v19
        (nilP (some ⟨b, 0, none⟩) fun a20 => stV w17 ((a20.add 6).add 0) (.bool true) fun w21 => g_parseState_closeBlock.k2 R (some ⟨b, 0, none⟩) r14 r16_0 w21)
        (callE P i_listCorner #[.pointer r16_0] (fun e w23 => ∃ (r22 : Bool), e = .returned (.bool r22) ∧ nilP (some ⟨b, 0, none⟩) fun a24 => stV w23 ((a24.add 6).add 0) (.bool r22) fun w25 => g_parseState_closeBlock.k2 R (some ⟨b, 0, none⟩) r14 r16_0 w25) w17))
        (g_parseState_closeBlock.k3 R (some ⟨b, 0, none⟩) r14 w17)) w) : callE P i_parseState_closeBlock #[.pointer (some ⟨b, 0, none⟩)] R w := by
  have hlt := hs.2.2
  have hn := hs.2.1
  obtain ⟨sb, sp, hq, rfl, hsp⟩ := hs.split (by simp)
  simp only [List.length_append, List.length_singleton] at hn hlt
  refine g_parseState_closeBlock.sound ?_
  refine h.tk fun w h => ?_
  refine nilP_some (nilP_some ?_)
  refine ⟨_, _, _, h.ldA, ?_⟩
  refine ⟨_, _, _, h.ldA, ?_⟩
  rw [hn, len_dec (by omega)]
  refine ⟨by omega, by omega, ?_⟩
  rw [hq]
  refine nilP_some ?_
  simp only [Addr.add_lit, Nat.zero_add, Int.toNat_natCast]
  refine ⟨o.bd, Sat.ld h (.tail _ (.head _)) (stk_get (f := 0) (by decide) (last_get o)), false, w, by rw [ho]; exact eq_iface_nil und_bb _ _ w, br_false rfl ?_⟩
  refine nilP_some ?_
  refine ⟨o.bd, Sat.ld h (.tail _ (.head _)) (stk_get (f := 0) (by decide) (last_get o)), ?_⟩
  exact hb _ h
structure IT where
  nb : Nat
  s : Nat
  e : Nat
  q : Option Addr
  n : Nat
  c : Nat
  wd : Nat
  IM : List Chunk
  D : List DB
def IT.chunk (i : IT) : Chunk := (i.nb, cel [.int .i64 i.s, .int .i64 i.e, .slice i.q i.n i.c, .int .i64 i.wd] ty_Item)
def IT.v (i : IT) : Value := .iface ty_P_Item (.pointer (some ⟨i.nb, 0, none⟩))
def IT.db (i : IT) : DB := ⟨i.v, i.chunk :: (i.IM ++ ownC i.D), txsC i.D⟩
structure IT.ok (i : IT) : Prop where
  sl : Sl 1 ty_Block i.q i.n i.c (i.D.map DB.v) i.IM
  len : i.D.length < 1000000
  se : i.s < 1000000000 ∧ i.e < 1000000000
theorem IT.n_eq {i : IT} (h : i.ok) : i.n = i.D.length := by have := h.sl.1; simp at this; omega
theorem IT.posIs (i : IT) : i.db.posIs i.s i.e := posIs_of pos_Item rfl (.head _)
def DB.ifc (d : DB) : Prop := ∃ ty q, d.v = .iface ty (.pointer q)
def lstC (nb s e : Nat) (bul num : Int) (loose : Bool) (q : Option Addr) (n c : Nat) : Chunk := (nb, cel [.int .i64 s, .int .i64 e, .int .i32 bul, .int .i64 num, .bool loose, .slice q n c] ty_List)
theorem ta_any {t e xt : TypeId} {q : Option Addr} {ty : TypeId} {i : TypeInfo} (hu : P.underlying t = some (.pointer e)) (hi : P.info? t = some i) (hz : i.zero = some (.pointer none)) (w : World) :
    ∃ r k, (Instr.typeAssert (.iface ty (.pointer q)) xt t true).run P w = .ok (.tuple #[.pointer r, .bool k]) w := by
  by_cases ht : ty = t
  · subst ht
    exact ⟨q, true, ta_yes (by rw [hu]; intro ms h; cases h) hu w⟩
  · exact ⟨none, false, ta_no (by rw [hu]; intro ms h; cases h) hu ht hi hz w⟩
theorem und_PList : P.underlying ty_P_List = some (.pointer ty_List) := by kernel_rfl
theorem und_PTB : P.underlying ty_P_ThematicBreak = some (.pointer ty_ThematicBreak) := by kernel_rfl
theorem und_PCB : P.underlying ty_P_CodeBlock = some (.pointer ty_CodeBlock) := by kernel_rfl
theorem und_PItem : P.underlying ty_P_Item = some (.pointer ty_Item) := by kernel_rfl
theorem ta_item (q : Option Addr) (w : World) : (Instr.typeAssert (.iface ty_P_Item (.pointer q)) ty_Block ty_P_Item false).run P w = .ok (.pointer q) w := by
  simp [Instr.typeAssert, run_underlying und_PItem]
theorem IT.own_mem {items : List IT} {i : IT} (hi : i ∈ items) : ∀ x ∈ i.db.own, x ∈ ownC (items.map IT.db) := by
  intro x hx
  exact List.mem_flatMap.2 ⟨i.db, List.mem_map_of_mem hi, hx⟩
theorem listCorner_ok {nb s e : Nat} {bul num : Int} {loose : Bool} {q : Option Addr} {n c : Nat} {items : List IT} {IM : List Chunk} (hS : Sl 1 ty_Block q n c (items.map IT.v) IM) (hok : ∀ i ∈ items, i.ok ∧ ∀ d ∈ i.D, d.ifc) (hn : items.length < 1000000)
    (h : Sat σ w L) (hL : ∀ x ∈ lstC nb s e bul num loose q n c :: (IM ++ ownC (items.map IT.db)), x ∈ L) (hR : ∀ k, R (.returned (.bool k)) w) : callE P i_listCorner #[.pointer (some ⟨nb, 0, none⟩)] R w := by
  have hnl : n = items.length := by have := hS.1; simp at this; omega
  refine g_listCorner.sound ?_
  refine nilP_some ⟨_, _, _, Sat.ld h (hL _ (.head _)) (i := 5) rfl, ?_⟩
  intro X hX
  have key : ∀ k j : Nat, j + k = items.length → X q n c (n : Int) (j : Int) w := by
    intro k
    induction k with
    | zero =>
      intro j hj
      exact hX _ _ _ _ _ _ (br_false (by simp; omega) (hR false))
    | succ k ih =>
      intro j hj
      have hjl : j < items.length := by omega
      have him := List.getElem_mem hjl
      generalize hgi : items[j] = i at him
      obtain ⟨hio, hid⟩ := hok i him
      have hmo : ∀ x ∈ i.db.own, x ∈ L := fun x hx => hL x (.tail _ (List.mem_append_right _ (IT.own_mem him x hx)))
      have hmc : i.chunk ∈ L := hmo _ (.head _)
      have hmI : ∀ x ∈ i.IM, x ∈ L := fun x hx => hmo x (.tail _ (List.mem_append_left _ hx))
      refine hX _ _ _ _ _ _ (br_true (by simp; omega) ⟨by omega, by omega, ?_⟩)
      refine hS.loadMem h (fun x hx => hL x (.tail _ (List.mem_append_left _ hx))) (j := j) (v := i.v) (by simp [hjl, hgi]) fun qb hq hc => ?_
      simp only [Addr.add_lit, Int.toNat_natCast, Nat.mul_one, Nat.zero_add]
      refine ⟨_, hc, some ⟨i.nb, 0, none⟩, w, ta_item _ w, nilP_some ?_⟩
      refine ⟨_, _, _, Sat.ld h hmc (i := 2) rfl, ?_⟩
      rw [IT.n_eq hio]
      refine br_split (fun _ => hR true) fun hne => nilP_some ?_
      have hpos : 0 < i.D.length := by have : i.D.length ≠ 0 := by simpa using hne
                                       omega
      obtain ⟨ty, dq, hdv⟩ := hid i.D[0] (List.getElem_mem hpos)
      refine ⟨_, _, _, Sat.ld h hmc (i := 2) rfl, by decide, by rw [IT.n_eq hio]; omega, ?_⟩
      refine hio.sl.loadMem h hmI (j := 0) (v := i.D[0].v) (by simp [hpos]) fun qb2 hq2 hc2 => ?_
      simp only [Addr.add_lit, Int.toNat_natCast, Nat.mul_one, Nat.zero_add]
      rw [hdv] at hc2
      obtain ⟨r1, k1, e1⟩ := ta_any (xt := ty_Block) (q := dq) (ty := ty) und_PList (i := (P.info? ty_P_List).getD default) (by kernel_rfl) (by kernel_rfl) w
      obtain ⟨r2, k2, e2⟩ := ta_any (xt := ty_Block) (q := dq) (ty := ty) und_PTB (i := (P.info? ty_P_ThematicBreak).getD default) (by kernel_rfl) (by kernel_rfl) w
      obtain ⟨r3, k3, e3⟩ := ta_any (xt := ty_Block) (q := dq) (ty := ty) und_PCB (i := (P.info? ty_P_CodeBlock).getD default) (by kernel_rfl) (by kernel_rfl) w
      refine ⟨_, hc2, r1, k1, w, e1, r2, k2, w, e2, r3, k3, w, e3, ?_⟩
      refine br_split (fun _ => hR true) fun _ => ?_
      rw [i64_inc (by omega)]
      exact ih (j + 1) (by omega)
  exact key items.length 0 (by omega)
end Go.Proofs.YtihmcipajjakgaaGreatDoor


set_option linter.unusedVariables false
namespace Go.Proofs.YtihmcipajjakgaaGreatDoor
open Go.Proofs Go.IntWalk Go.RowKit
variable {σ : Out} {w : World} {L L' : List Chunk} {R : Ending → World → Prop}
theorem Sl.storeAt {q : Option Addr} {n c j : Nat} {e : TypeId} {vs : List Value} {RM : List Chunk} {v : Value} {K : World → Prop} (hS : Sl 1 e q n c vs RM) (h : Sat σ w (RM ++ L)) (hj : j < vs.length) (hv : OneCell v)
    (hK : ∀ w RM', Sl 1 e q n c (vs.set j v) RM' → Sat σ w (RM' ++ L) → K w) : nilP q fun a => stV w ((a.add j).add 0) v K := by
  obtain ⟨hl, hc, ⟨rfl, rfl, _, rfl⟩ | ⟨rb, sp, rfl, rfl, hsp⟩⟩ := hS
  · exact absurd hl (by omega)
  · refine nilP_some ?_
    simp only [Addr.add_lit, Nat.zero_add, Nat.add_zero]
    refine Sat.st h (k := 0) rfl (by rw [List.length_append]; omega) hv rfl fun w h => ?_
    refine hK w [(rb, cel (vs.set j v ++ sp) e)] ⟨by simpa using hl, hc, .inr ⟨rb, sp, rfl, rfl, by simpa using hsp⟩⟩ ?_
    have e1 : (vs ++ sp).set j v = vs.set j v ++ sp := List.set_append_left _ _ hj
    rw [← e1]
    exact h
def gapD (pos : DB → Nat × Nat) : List DB → Bool
  | d :: d2 :: ds => decide ((pos d).2 + 1 < (pos d2).1) || gapD pos (d2 :: ds)
  | _ => false
def gapI (pos : DB → Nat × Nat) : List IT → Bool
  | i :: i2 :: is => decide (i.e + 1 < i2.s) || (gapD pos i.D || gapI pos (i2 :: is))
  | [i] => gapD pos i.D
  | [] => false
def tightDB (d : DB) : DB := match d.v with
  | .iface ty _ => if ty = ty_P_Paragraph then match d.txs with | [x] => ⟨.iface ty_P_Text (.pointer (some ⟨x.t, 0, none⟩)), d.own, d.txs⟩ | _ => d else d
  | _ => d
theorem tightDB_para (nb t s e : Nat) (raw : List UInt8) : tightDB (paraDB nb t s e raw) = ⟨.iface ty_P_Text (.pointer (some ⟨t, 0, none⟩)), [paraC nb s e t], [⟨t, s, e, raw⟩]⟩ := by
  unfold tightDB paraDB
  simp
theorem tightDB_other {d : DB} {ty : TypeId} {q : Option Addr} (h : d.v = .iface ty (.pointer q)) (ht : ty ≠ ty_P_Paragraph) : tightDB d = d := by
  unfold tightDB
  rw [h]
  simp [ht]
def DB.kindOK (d : DB) : Prop := (∃ nb t s e raw, d = paraDB nb t s e raw) ∨ (∃ ty q, d.v = .iface ty (.pointer q) ∧ ty ≠ ty_P_Paragraph)
theorem tightDB_own {d : DB} (h : d.kindOK) : (tightDB d).own = d.own ∧ (tightDB d).txs = d.txs := by
  rcases h with ⟨nb, t, s, e, raw, rfl⟩ | ⟨ty, q, h, ht⟩
  · rw [tightDB_para]; exact ⟨rfl, rfl⟩
  · rw [tightDB_other h ht]; exact ⟨rfl, rfl⟩
theorem ownC_tight {D : List DB} (h : ∀ d ∈ D, d.kindOK) : ownC (D.map tightDB) = ownC D ∧ txsC (D.map tightDB) = txsC D := by
  induction D with
  | nil => exact ⟨rfl, rfl⟩
  | cons d D ih =>
    obtain ⟨a, b⟩ := tightDB_own (h d (by simp))
    obtain ⟨c, e⟩ := ih fun x hx => h x (List.mem_cons_of_mem _ hx)
    constructor
    · show (tightDB d).own ++ ownC (D.map tightDB) = d.own ++ ownC D
      rw [a, c]
    · show (tightDB d).txs ++ txsC (D.map tightDB) = d.txs ++ txsC D
      rw [b, e]
inductive Ret : List IT → List IT → Prop where
  | nil : Ret [] []
  | cons {i i' : IT} {is is' : List IT} : i' = { i with D := i.D.map tightDB, IM := i'.IM } → i'.ok → Ret is is' → Ret (i :: is) (i' :: is')
theorem Ret.snoc {is is' : List IT} {i i' : IT} (h : Ret is is') (h1 : i' = { i with D := i.D.map tightDB, IM := i'.IM }) (h2 : i'.ok) : Ret (is ++ [i]) (is' ++ [i']) := by
  induction h with
  | nil => exact .cons h1 h2 .nil
  | cons a b _ ih => exact .cons a b ih
theorem Ret.vs {is is' : List IT} (h : Ret is is') : is'.map IT.v = is.map IT.v := by
  induction h with
  | nil => rfl
  | cons a b _ ih => rw [List.map_cons, List.map_cons, ih, a]; rfl
theorem Ret.len {is is' : List IT} (h : Ret is is') : is'.length = is.length := by
  induction h with
  | nil => rfl
  | cons a b _ ih => simp [ih]
theorem und_PPar : P.underlying ty_P_Paragraph = some (.pointer ty_Paragraph) := by kernel_rfl
theorem ta_para_yes (q : Option Addr) (w : World) : (Instr.typeAssert (.iface ty_P_Paragraph (.pointer q)) ty_Block ty_P_Paragraph true).run P w = .ok (.tuple #[.pointer q, .bool true]) w :=
  ta_yes (by rw [und_PPar]; intro ms h; cases h) und_PPar w
theorem ta_para_no {ty : TypeId} {v : Value} (ht : ty ≠ ty_P_Paragraph) (w : World) : (Instr.typeAssert (.iface ty v) ty_Block ty_P_Paragraph true).run P w = .ok (.tuple #[.pointer none, .bool false]) w :=
  ta_no (by rw [und_PPar]; intro ms h; cases h) und_PPar ht (i := (P.info? ty_P_Paragraph).getD default) (by kernel_rfl) (by kernel_rfl) w
theorem meth_listBuild : methB P ty_P_listBuilder "pub-paratext/pub/rscmarkdown.build" i_listBuilder_build = true := by kernel_rfl
theorem meth_itemBuild : methB P ty_P_itemBuilder "pub-paratext/pub/rscmarkdown.build" i_itemBuilder_build = true := by kernel_rfl
theorem listBuild_ok {b lb : Nat} {bul num : Int} {td : Value} {p : PS} {ob : List OB} {o : OB} {M IM : List Chunk} {items : List IT} {pos : DB → Nat × Nat} {it : Option Addr}
    (h : Sat σ w (p.at b :: M ++ (lisC lb bul num false it td :: (IM ++ (ownC (items.map IT.db) ++ L))))) (hs : Stk p (ob ++ [o]) M) (hS : Sl 1 ty_Block o.q o.n o.c (items.map IT.v) IM) (hne : items ≠ []) (hn : items.length < 1000000) (hbs : o.s < 1000000000)
    (hok : ∀ i ∈ items, i.ok ∧ ∀ d ∈ i.D, d.kindOK ∧ d.posIs (pos d).1 (pos d).2 ∧ (pos d).1 < 1000000000 ∧ (pos d).2 < 1000000000)
    (hR : ∀ w nb e (items' : List IT), (gapI pos items = true ∧ items' = items ∨ gapI pos items = false ∧ Ret items items') → (∃ i ∈ items, e = i.e) →
      Sat σ w (p.at b :: M ++ (lstC nb o.s e bul num (gapI pos items) o.q o.n o.c :: (IM ++ (ownC (items'.map IT.db) ++ L)))) → R (.returned (.iface ty_P_List (.pointer (some ⟨nb, 0, none⟩)))) w) :
    callE P i_listBuilder_build #[.pointer (some ⟨lb, 0, none⟩), .iface ty_P_parseState (.pointer (some ⟨b, 0, none⟩))] R w := by
  have hnl : o.n = items.length := by have := hS.1; simp at this; omega
  have hpl : 0 < items.length := List.length_pos_iff.2 hne
  refine g_listBuilder_build.sound ?_
  refine enter_meth meth_blocks ?_
  refine blocks_ok h hs fun w h => ⟨_, _, _, rfl, ?_⟩
  refine enter_meth meth_pos ?_
  refine pos_ok h hs fun w h => ⟨_, _, rfl, ?_⟩
  refine Sat.bx h fun b5 w h => ?_
  refine h.stA 0 fun w h => ?_
  refine h.stA 0 fun w h => ?_
  have h : Sat σ w ((b5, cel [.int .i64 o.s, .int .i64 o.e] ty_Position) :: (p.at b :: M ++ (lisC lb bul num false it td :: (IM ++ (ownC (items.map IT.db) ++ L))))) := h
  rw [hnl] at hS ⊢
  have hw1 : IntKind.i64.wrap ((items.length : Int) - 1) = ((items.length - 1 : Nat) : Int) := by rw [i64_in _ (by omega)]; omega
  rw [hw1]
  refine ⟨by omega, by omega, ?_⟩
  generalize hla : items[items.length - 1]'(by omega) = la
  have hlam : la ∈ items := by rw [← hla]; exact List.getElem_mem _
  have hIM : ∀ {K : List Chunk} {x : Chunk}, x ∈ IM → x ∈ K ++ (lisC lb bul num false it td :: (IM ++ (ownC (items.map IT.db) ++ L))) := fun hx => by simp [hx]
  refine hS.loadMem h (fun x hx => .tail _ (hIM hx)) (j := items.length - 1) (v := la.v) (by rw [List.getElem?_map, List.getElem?_eq_getElem (by omega), hla]; rfl) fun qb hq hc => ?_
  simp only [Addr.add_lit, Int.toNat_natCast, Nat.mul_one, Nat.zero_add]
  refine ⟨_, hc, ?_⟩
  have hmo : ∀ {K : List Chunk} {i : IT}, i ∈ items → ∀ x ∈ i.db.own, x ∈ K ++ (lisC lb bul num false it td :: (IM ++ (ownC (items.map IT.db) ++ L))) := fun hi x hx => by
    have := IT.own_mem hi x hx
    simp [this]
  refine la.posIs σ _ _ w (fun x hx => .tail _ (hmo hlam x hx)) h fun w h => ⟨_, _, rfl, ?_⟩
  refine h.stA 0 fun w h => ?_
  have h : Sat σ w ((b5, cel [.int .i64 o.s, .int .i64 la.e] ty_Position) :: (p.at b :: M ++ (lisC lb bul num false it td :: (IM ++ (ownC (items.map IT.db) ++ L))))) := h
  have k3 : ∀ (lo : Bool) (items' : List IT) w, (∀ w nb, Sat σ w (p.at b :: M ++ (lstC nb o.s la.e bul num lo o.q items.length o.c :: (IM ++ (ownC (items'.map IT.db) ++ L)))) → R (.returned (.iface ty_P_List (.pointer (some ⟨nb, 0, none⟩)))) w) →
      Sat σ w ((b5, cel [.int .i64 o.s, .int .i64 la.e] ty_Position) :: lisC lb bul num lo it td :: (p.at b :: M ++ (IM ++ (ownC (items'.map IT.db) ++ L)))) → g_listBuilder_build.k3 R (some ⟨lb, 0, none⟩) (.iface ty_P_parseState (.pointer (some ⟨b, 0, none⟩))) b5 w := by
    intro lo items' w hR h
    refine Sat.tk h fun w h => nilP_some (nilP_some (nilP_some ?_))
    refine ⟨_, Sat.ld h (.head _) (i := 0) rfl, _, Sat.ld h (.head _) (i := 1) rfl, _, Sat.ld h (.tail _ (.head _)) (i := 0) rfl, _, Sat.ld h (.tail _ (.head _)) (i := 1) rfl, _, Sat.ld h (.tail _ (.head _)) (i := 2) rfl, ?_⟩
    have h0 := h
    have h : Sat σ w (p.at b :: M ++ ((b5, cel [.int .i64 o.s, .int .i64 la.e] ty_Position) :: lisC lb bul num lo it td :: (IM ++ (ownC (items'.map IT.db) ++ L)))) := h.re (by intro _; simp only [List.append_eq, cnt_append, cnt_cons, cnt_nil] <;> omega)
    have hm1 : lisC lb bul num lo it td ∈ p.at b :: M ++ ((b5, cel [.int .i64 o.s, .int .i64 la.e] ty_Position) :: lisC lb bul num lo it td :: (IM ++ (ownC (items'.map IT.db) ++ L))) := by simp
    have hm5 : (b5, cel [.int .i64 o.s, .int .i64 la.e] ty_Position) ∈ p.at b :: M ++ ((b5, cel [.int .i64 o.s, .int .i64 la.e] ty_Position) :: lisC lb bul num lo it td :: (IM ++ (ownC (items'.map IT.db) ++ L))) := by simp
    refine enter_meth meth_blocks ?_
    refine blocks_ok h hs fun w h => ⟨_, _, _, rfl, h0.same h (.tail _ (.head _)) hm1 1, h0.same h (.tail _ (.head _)) hm1 1, h0.same h (.tail _ (.head _)) hm1 1, h0.same h (.head _) hm5 2, ?_⟩
    refine Sat.bx h fun nb w h => ?_
    refine hR w nb ?_
    rw [hnl] at h
    have h : Sat σ w (lstC nb o.s la.e bul num lo o.q items.length o.c :: (p.at b :: M ++ ((b5, cel [.int .i64 o.s, .int .i64 la.e] ty_Position) :: lisC lb bul num lo it td :: (IM ++ (ownC (items'.map IT.db) ++ L))))) := h
    exact h.less [(b5, cel [.int .i64 o.s, .int .i64 la.e] ty_Position), lisC lb bul num lo it td] (by intro _; simp only [List.append_eq, cnt_append, cnt_cons, cnt_nil] <;> omega)
  have l2 : ∀ w, (∀ w nb (items' : List IT), Ret items items' → Sat σ w (p.at b :: M ++ (lstC nb o.s la.e bul num false o.q items.length o.c :: (IM ++ (ownC (items'.map IT.db) ++ L)))) → R (.returned (.iface ty_P_List (.pointer (some ⟨nb, 0, none⟩)))) w) →
      Sat σ w ((b5, cel [.int .i64 o.s, .int .i64 la.e] ty_Position) :: lisC lb bul num false it td :: (p.at b :: M ++ (IM ++ (ownC (items.map IT.db) ++ L)))) →
      g_listBuilder_build.l2 R (some ⟨lb, 0, none⟩) (.iface ty_P_parseState (.pointer (some ⟨b, 0, none⟩))) b5 o.q items.length o.c (items.length : Int) 0 w := by
    intro w hR h X hX
    have key : ∀ (suf pre pre' : List IT) w, pre ++ suf = items → Ret pre pre' → Sat σ w ((b5, cel [.int .i64 o.s, .int .i64 la.e] ty_Position) :: lisC lb bul num false it td :: (p.at b :: M ++ (IM ++ (ownC ((pre' ++ suf).map IT.db) ++ L)))) →
        X (some ⟨lb, 0, none⟩) (.iface ty_P_parseState (.pointer (some ⟨b, 0, none⟩))) b5 o.q items.length o.c (items.length : Int) (pre.length : Int) w := by
      intro suf
      induction suf with
      | nil =>
        intro pre pre' w he hret h
        rw [List.append_nil] at he h
        exact hX _ _ _ _ _ _ _ _ _ (br_false (by rw [he]; simp) (k3 false pre' w (fun w nb h => hR w nb pre' (he ▸ hret) h) h))
      | cons i suf ih =>
        intro pre pre' w he hret h
        have hlt : pre.length < items.length := by rw [← he]; simp
        have him : i ∈ items := by rw [← he]; simp
        obtain ⟨hio, hid⟩ := hok i him
        have hgi : items[pre.length] = i := by simp [← he]
        refine hX _ _ _ _ _ _ _ _ _ (br_true (by simp; omega) ⟨by omega, by omega, ?_⟩)
        refine hS.loadMem h (fun x hx => by simp [hx]) (j := pre.length) (v := i.v) (by rw [List.getElem?_map, List.getElem?_eq_getElem hlt, hgi]; rfl) fun qb hq hc => ?_
        simp only [Addr.add_lit, Int.toNat_natCast, Nat.mul_one, Nat.zero_add]
        refine ⟨_, hc, some ⟨i.nb, 0, none⟩, w, ta_item _ w, nilP_some ?_⟩
        have eown : ownC ((pre' ++ i :: suf).map IT.db) = ownC (pre'.map IT.db) ++ (i.chunk :: (i.IM ++ ownC i.D) ++ ownC (suf.map IT.db)) := by
          simp [ownC, IT.db]
        rw [eown] at h
        have h : Sat σ w (i.IM ++ (i.chunk :: ((b5, cel [.int .i64 o.s, .int .i64 la.e] ty_Position) :: lisC lb bul num false it td :: (p.at b :: M ++ (IM ++ (ownC (pre'.map IT.db) ++ (ownC i.D ++ (ownC (suf.map IT.db) ++ L)))))))) := h.re (by intro _; simp only [List.append_eq, cnt_append, cnt_cons, cnt_nil] <;> omega)
        have hmc : ∀ {K : List Chunk}, i.chunk ∈ K ++ (i.chunk :: ((b5, cel [.int .i64 o.s, .int .i64 la.e] ty_Position) :: lisC lb bul num false it td :: (p.at b :: M ++ (IM ++ (ownC (pre'.map IT.db) ++ (ownC i.D ++ (ownC (suf.map IT.db) ++ L))))))) := by intro K; simp
        refine ⟨_, _, _, Sat.ld h hmc (i := 2) rfl, ?_⟩
        have hin := IT.n_eq hio
        have hilen := hio.len
        rw [hin]
        intro Y hY
        have inner : ∀ (dsuf dpre : List DB) RM w, dpre ++ dsuf = i.D → Sl 1 ty_Block i.q i.D.length i.c ((dpre.map tightDB ++ dsuf).map DB.v) RM →
            Sat σ w (RM ++ (i.chunk :: ((b5, cel [.int .i64 o.s, .int .i64 la.e] ty_Position) :: lisC lb bul num false it td :: (p.at b :: M ++ (IM ++ (ownC (pre'.map IT.db) ++ (ownC i.D ++ (ownC (suf.map IT.db) ++ L)))))))) →
            Y (some ⟨lb, 0, none⟩) (.iface ty_P_parseState (.pointer (some ⟨b, 0, none⟩))) b5 (some ⟨i.nb, 0, none⟩) o.q items.length o.c (items.length : Int) (pre.length : Int) i.q i.D.length i.c (i.D.length : Int) (dpre.length : Int) w := by
          intro dsuf
          induction dsuf with
          | nil =>
            intro dpre RM w he2 hSl h
            rw [List.append_nil] at he2 hSl
            rw [he2] at hSl
            refine hY _ _ _ _ _ _ _ _ _ _ _ _ _ _ _ (br_false (by rw [he2]; simp) ?_)
            rw [i64_inc (by omega)]
            have := ih (pre ++ [i]) (pre' ++ [{ i with D := i.D.map tightDB, IM := RM }]) w (by rw [← he]; simp) (hret.snoc rfl ⟨by simpa [hin] using hSl, by simpa using hio.len, hio.se⟩) ?_
            · rw [List.length_append, List.length_singleton] at this; exact this
            · have e2 := (ownC_tight (D := i.D) fun d hd => (hid d hd).1).1
              have e1 : ownC (((pre' ++ [{ i with D := i.D.map tightDB, IM := RM }]) ++ suf).map IT.db) = ownC (pre'.map IT.db) ++ (i.chunk :: (RM ++ ownC i.D) ++ ownC (suf.map IT.db)) := by
                rw [← e2]
                simp [ownC, IT.db, IT.chunk]
              rw [e1]
              exact h.re (by intro _; simp only [List.append_eq, cnt_append, cnt_cons, cnt_nil] <;> omega)
          | cons d dsuf ihd =>
            intro dpre RM w he2 hSl h
            have hdl : dpre.length < i.D.length := by rw [← he2]; simp
            have hdm : d ∈ i.D := by rw [← he2]; simp
            obtain ⟨hk, _, _⟩ := hid d hdm
            refine hY _ _ _ _ _ _ _ _ _ _ _ _ _ _ _ (br_true (by simp; omega) ⟨by omega, by omega, ?_⟩)
            have hget : ((dpre.map tightDB ++ d :: dsuf).map DB.v)[dpre.length]? = some d.v := by
              rw [List.getElem?_map, List.getElem?_append_right (by simp)]; simp
            refine hSl.loadAt h hget fun qb hq hc => ?_
            simp only [Addr.add_lit, Int.toNat_natCast, Nat.mul_one, Nat.zero_add]
            refine ⟨_, hc, ?_⟩
            have hset : ∀ v : Value, v = (tightDB d).v → ((dpre.map tightDB ++ d :: dsuf).map DB.v).set dpre.length v = ((dpre ++ [d]).map tightDB ++ dsuf).map DB.v := by
              rintro v rfl
              simp
            rcases hk with ⟨nb, t, s, e, raw, rfl⟩ | ⟨ty, dq, hv, hty⟩
            · refine ⟨some ⟨nb, 0, none⟩, true, w, ta_para_yes _ w, br_true rfl ?_⟩
              refine Sat.tk h fun w h => nilP_some (nilP_some ?_)
              have hmp : paraC nb s e t ∈ RM ++ (i.chunk :: ((b5, cel [.int .i64 o.s, .int .i64 la.e] ty_Position) :: lisC lb bul num false it td :: (p.at b :: M ++ (IM ++ (ownC (pre'.map IT.db) ++ (ownC i.D ++ (ownC (suf.map IT.db) ++ L))))))) := by
                have : paraC nb s e t ∈ ownC i.D := List.mem_flatMap.2 ⟨_, hdm, by simp [paraDB]⟩
                simp [this]
              refine ⟨_, _, _, Sat.ld h hmc (i := 2) rfl, _, Sat.ld h hmp (i := 2) rfl, by omega, by rw [hin]; omega, ?_⟩
              refine hSl.storeAt h (j := dpre.length) (v := .iface ty_P_Text (.pointer (some ⟨t, 0, none⟩))) (by simp) trivial fun w RM' hSl' h => ?_
              rw [hset _ (by rw [tightDB_para])] at hSl'
              rw [i64_inc (by omega)]
              have := ihd (dpre ++ [paraDB nb t s e raw]) RM' w (by rw [← he2]; simp) hSl' h
              rw [List.length_append, List.length_singleton] at this; exact this
            · rw [hv]
              refine ⟨none, false, w, ta_para_no hty w, br_false rfl ?_⟩
              rw [i64_inc (by omega)]
              have e3 : (dpre.map tightDB ++ d :: dsuf).map DB.v = ((dpre ++ [d]).map tightDB ++ dsuf).map DB.v := by simp [tightDB_other hv hty]
              rw [e3] at hSl
              have := ihd (dpre ++ [d]) RM w (by rw [← he2]; simp) hSl h
              rw [List.length_append, List.length_singleton] at this; exact this
        have hsl0 : Sl 1 ty_Block i.q i.D.length i.c (([].map tightDB ++ i.D).map DB.v) i.IM := by rw [← hin]; exact hio.sl
        exact inner i.D [] i.IM w rfl hsl0 h
    exact key items [] [] w rfl .nil h
  have k1 : ∀ w, Sat σ w ((b5, cel [.int .i64 o.s, .int .i64 la.e] ty_Position) :: lisC lb bul num (gapI pos items) it td :: (p.at b :: M ++ (IM ++ (ownC (items.map IT.db) ++ L)))) → g_listBuilder_build.k1 R (some ⟨lb, 0, none⟩) (.iface ty_P_parseState (.pointer (some ⟨b, 0, none⟩))) o.q items.length o.c b5 w := by
    intro w h
    refine nilP_some ⟨_, Sat.ld h (.tail _ (.head _)) (i := 2) rfl, ?_⟩
    rw [hnl] at hR
    cases hg : gapI pos items with
    | true =>
      rw [hg] at h hR
      exact br_false rfl (k3 true items w (fun w nb h => hR w nb la.e items (.inl ⟨rfl, rfl⟩) ⟨la, hlam, rfl⟩ h) h)
    | false =>
      rw [hg] at h hR
      exact br_true rfl (l2 w (fun w nb items' hr h => hR w nb la.e items' (.inr ⟨rfl, hr⟩) ⟨la, hlam, rfl⟩ h) h)
  intro X hX
  have kT : ∀ w, gapI pos items = true → Sat σ w ((b5, cel [.int .i64 o.s, .int .i64 la.e] ty_Position) :: (p.at b :: M ++ (lisC lb bul num false it td :: (IM ++ (ownC (items.map IT.db) ++ L))))) →
      nilP (some ⟨lb, 0, none⟩) fun a => stV w ((a.add 2).add 0) (.bool true) fun w => g_listBuilder_build.k1 R (some ⟨lb, 0, none⟩) (.iface ty_P_parseState (.pointer (some ⟨b, 0, none⟩))) o.q items.length o.c b5 w := by
    intro w hg h
    have h : Sat σ w (lisC lb bul num false it td :: (b5, cel [.int .i64 o.s, .int .i64 la.e] ty_Position) :: (p.at b :: M ++ (IM ++ (ownC (items.map IT.db) ++ L)))) := h.re (by intro _; simp only [List.append_eq, cnt_append, cnt_cons, cnt_nil] <;> omega)
    refine nilP_some ?_
    refine h.stA 0 fun w h => ?_
    refine k1 w ?_
    rw [hg]
    have h : Sat σ w (lisC lb bul num true it td :: (b5, cel [.int .i64 o.s, .int .i64 la.e] ty_Position) :: (p.at b :: M ++ (IM ++ (ownC (items.map IT.db) ++ L)))) := h
    exact h.re (by intro _; simp only [List.append_eq, cnt_append, cnt_cons, cnt_nil] <;> omega)
  have key : ∀ (suf pre : List IT) w, pre ++ suf = items → gapI pos items = gapI pos suf → Sat σ w ((b5, cel [.int .i64 o.s, .int .i64 la.e] ty_Position) :: (p.at b :: M ++ (lisC lb bul num false it td :: (IM ++ (ownC (items.map IT.db) ++ L))))) →
      X (some ⟨lb, 0, none⟩) (.iface ty_P_parseState (.pointer (some ⟨b, 0, none⟩))) o.q items.length o.c b5 o.q items.length o.c (items.length : Int) (pre.length : Int) w := by
    intro suf
    induction suf with
    | nil =>
      intro pre w he hg h
      rw [List.append_nil] at he
      subst he
      refine hX _ _ _ _ _ _ _ _ _ _ _ _ (br_false (by simp) (k1 w ?_))
      rw [hg]
      have h : Sat σ w ((b5, cel [.int .i64 o.s, .int .i64 la.e] ty_Position) :: (p.at b :: M ++ (lisC lb bul num (gapI pos []) it td :: (IM ++ (ownC (pre.map IT.db) ++ L))))) := h
      exact h.re (by intro _; simp only [List.append_eq, cnt_append, cnt_cons, cnt_nil] <;> omega)
    | cons i suf ih =>
      intro pre w he hg h
      have hlt : pre.length < items.length := by rw [← he]; simp
      have him : i ∈ items := by rw [← he]; simp
      obtain ⟨hio, hid⟩ := hok i him
      have hgi : items[pre.length] = i := by simp [← he]
      have hmoi : ∀ x ∈ i.db.own, x ∈ (b5, cel [.int .i64 o.s, .int .i64 la.e] ty_Position) :: (p.at b :: M ++ (lisC lb bul num false it td :: (IM ++ (ownC (items.map IT.db) ++ L)))) := fun x hx => .tail _ (hmo him x hx)
      refine hX _ _ _ _ _ _ _ _ _ _ _ _ (br_true (by simp; omega) ⟨by omega, by omega, ?_⟩)
      refine hS.loadMem h (fun x hx => .tail _ (hIM hx)) (j := pre.length) (v := i.v) (by rw [List.getElem?_map, List.getElem?_eq_getElem hlt, hgi]; rfl) fun qb hq hc => ?_
      simp only [Addr.add_lit, Int.toNat_natCast, Nat.mul_one, Nat.zero_add]
      refine ⟨_, hc, some ⟨i.nb, 0, none⟩, w, ta_item _ w, ?_⟩
      rw [i64_inc (by omega)]
      have inner : ∀ rest w, (gapI pos items = (gapD pos i.D || rest)) → (∀ w, gapI pos items = rest → Sat σ w ((b5, cel [.int .i64 o.s, .int .i64 la.e] ty_Position) :: (p.at b :: M ++ (lisC lb bul num false it td :: (IM ++ (ownC (items.map IT.db) ++ L))))) →
            X (some ⟨lb, 0, none⟩) (.iface ty_P_parseState (.pointer (some ⟨b, 0, none⟩))) o.q items.length o.c b5 o.q items.length o.c (items.length : Int) ((pre.length + 1 : Nat) : Int) w) →
          Sat σ w ((b5, cel [.int .i64 o.s, .int .i64 la.e] ty_Position) :: (p.at b :: M ++ (lisC lb bul num false it td :: (IM ++ (ownC (items.map IT.db) ++ L))))) →
          g_listBuilder_build.k2 R X (some ⟨lb, 0, none⟩) (.iface ty_P_parseState (.pointer (some ⟨b, 0, none⟩))) o.q items.length o.c b5 (some ⟨i.nb, 0, none⟩) o.q items.length o.c (items.length : Int) (pre.length : Int) w := by
        intro rest w hgr hnext h
        refine nilP_some ⟨_, _, _, Sat.ld h (hmoi _ (.head _)) (i := 2) rfl, ?_⟩
        have hin := IT.n_eq hio
        rw [hin]
        have hsl := hio.sl
        rw [hin] at hsl
        have hmI : ∀ x ∈ i.IM, x ∈ (b5, cel [.int .i64 o.s, .int .i64 la.e] ty_Position) :: (p.at b :: M ++ (lisC lb bul num false it td :: (IM ++ (ownC (items.map IT.db) ++ L)))) := fun x hx => hmoi x (.tail _ (List.mem_append_left _ hx))
        have hmD : ∀ d ∈ i.D, ∀ x ∈ d.own, x ∈ (b5, cel [.int .i64 o.s, .int .i64 la.e] ty_Position) :: (p.at b :: M ++ (lisC lb bul num false it td :: (IM ++ (ownC (items.map IT.db) ++ L)))) := fun d hd x hx => hmoi x (.tail _ (List.mem_append_right _ (List.mem_flatMap.2 ⟨d, hd, hx⟩)))
        intro Y hY
        have key2 : ∀ (dsuf dpre : List DB) w, dpre ++ dsuf = i.D → gapI pos items = (gapD pos dsuf || rest) → Sat σ w ((b5, cel [.int .i64 o.s, .int .i64 la.e] ty_Position) :: (p.at b :: M ++ (lisC lb bul num false it td :: (IM ++ (ownC (items.map IT.db) ++ L))))) →
            Y (some ⟨lb, 0, none⟩) (.iface ty_P_parseState (.pointer (some ⟨b, 0, none⟩))) o.q items.length o.c b5 (some ⟨i.nb, 0, none⟩) o.q items.length o.c (items.length : Int) (pre.length : Int) i.q i.D.length i.c (i.D.length : Int) (dpre.length : Int) w := by
          intro dsuf
          induction dsuf with
          | nil =>
            intro dpre w he2 hg2 h
            rw [List.append_nil] at he2
            refine hY _ _ _ _ _ _ _ _ _ _ _ _ _ _ _ _ _ _ (br_false (by rw [he2]; simp) ?_)
            rw [i64_inc (by omega)]
            exact hnext w (by rw [hg2]; rfl) h
          | cons d dsuf ihd =>
            intro dpre w he2 hg2 h
            have hdl : dpre.length < i.D.length := by rw [← he2]; simp
            have hdm : d ∈ i.D := by rw [← he2]; simp
            have hilen := hio.len
            obtain ⟨_, hp, hp1, hp2⟩ := hid d hdm
            refine hY _ _ _ _ _ _ _ _ _ _ _ _ _ _ _ _ _ _ (br_true (by simp; omega) ⟨by omega, by omega, ?_⟩)
            refine hsl.loadMem h hmI (j := dpre.length) (v := d.v) (by rw [← he2]; simp) fun qb2 hq2 hc2 => ?_
            simp only [Addr.add_lit, Int.toNat_natCast, Nat.mul_one, Nat.zero_add]
            refine ⟨_, hc2, ?_⟩
            refine hp σ _ _ w (hmD d hdm) h fun w h => ⟨_, _, rfl, nilP_some ?_⟩
            refine ⟨_, _, _, Sat.ld h (hmoi _ (.head _)) (i := 2) rfl, ?_⟩
            rw [hin, i64_inc (by omega)]
            cases dsuf with
            | nil =>
              refine br_false (by rw [← he2]; simp) ?_
              have := ihd (dpre ++ [d]) w (by rw [← he2]; simp) (by rw [hg2]; rfl) h
              rw [List.length_append, List.length_singleton] at this; exact this
            | cons d2 ds =>
              have hdl2 : dpre.length + 1 < i.D.length := by rw [← he2]; simp
              have hd2m : d2 ∈ i.D := by rw [← he2]; simp
              obtain ⟨_, hpp, hpp1, hpp2⟩ := hid d2 hd2m
              refine br_true (by simp; omega) (nilP_some ?_)
              refine ⟨_, _, _, Sat.ld h (hmoi _ (.head _)) (i := 2) rfl, by omega, by rw [hin]; omega, ?_⟩
              refine hsl.loadMem h hmI (j := dpre.length + 1) (v := d2.v) (by rw [← he2]; simp) fun qb3 hq3 hc3 => ?_
              simp only [Addr.add_lit, Int.toNat_natCast, Nat.mul_one, Nat.zero_add]
              refine ⟨_, hc3, ?_⟩
              refine hpp σ _ _ w (hmD d2 hd2m) h fun w h => ⟨_, _, rfl, ?_⟩
              rw [i64_in _ (by omega)]
              refine br_split (fun hgap => ?_) fun hgap => ?_
              · refine kT w ?_ h
                have : decide ((pos d).2 + 1 < (pos d2).1) = true := by simp at hgap ⊢; omega
                rw [hg2, gapD, this]; rfl
              · have := ihd (dpre ++ [d]) w (by rw [← he2]; simp) ?_ h
                · rw [List.length_append, List.length_singleton] at this; exact this
                · have : decide ((pos d).2 + 1 < (pos d2).1) = false := by simp at hgap ⊢; omega
                  rw [hg2, gapD, this]; rfl
        exact key2 i.D [] w rfl hgr h
      cases suf with
      | nil =>
        refine br_false (by rw [← he]; simp) ?_
        refine inner false w (by rw [hg]; simp [gapI]) (fun w hgf h => ?_) h
        have := ih (pre ++ [i]) w (by rw [← he]; simp) (by rw [hgf]; rfl) h
        rw [List.length_append, List.length_singleton] at this; exact this
      | cons i2 is =>
        have hlt2 : pre.length + 1 < items.length := by rw [← he]; simp
        have hgi2 : items[pre.length + 1] = i2 := by simp [← he]
        have hi2m : i2 ∈ items := by rw [← he]; simp
        obtain ⟨hio2, _⟩ := hok i2 hi2m
        have hse := hio.se
        have hse2 := hio2.se
        refine br_true (by simp; omega) ?_
        refine Sat.tk h fun w h => ⟨by omega, by omega, ?_⟩
        refine hS.loadMem h (fun x hx => .tail _ (hIM hx)) (j := pre.length + 1) (v := i2.v) (by rw [List.getElem?_map, List.getElem?_eq_getElem hlt2, hgi2]; rfl) fun qb3 hq3 hc3 => ?_
        simp only [Addr.add_lit, Int.toNat_natCast, Nat.mul_one, Nat.zero_add]
        refine nilP_some ⟨_, hc3, _, Sat.ld h (hmoi _ (.head _)) (i := 1) rfl, ?_⟩
        have h0 := h
        refine i2.posIs σ _ _ w (fun x hx => .tail _ (hmo hi2m x hx)) h fun w h => ⟨_, _, rfl, h0.same h (hmoi _ (.head _)) (hmoi _ (.head _)) 1, ?_⟩
        rw [i64_in _ (by omega)]
        have hgd : gapI pos (i :: i2 :: is) = (decide (i.e + 1 < i2.s) || (gapD pos i.D || gapI pos (i2 :: is))) := rfl
        refine br_split (fun hgap => ?_) fun hgap => ?_
        · refine kT w ?_ h
          have : decide (i.e + 1 < i2.s) = true := by simp at hgap ⊢; omega
          rw [hg, hgd, this]; rfl
        · have hno : decide (i.e + 1 < i2.s) = false := by simp at hgap ⊢; omega
          refine inner (gapI pos (i2 :: is)) w (by rw [hg, hgd, hno]; rfl) (fun w hgf h => ?_) h
          have := ih (pre ++ [i]) w (by rw [← he]; simp) hgf h
          rw [List.length_append, List.length_singleton] at this; exact this
  exact key items [] w rfl rfl h
end Go.Proofs.YtihmcipajjakgaaGreatDoor


set_option linter.unusedVariables false
namespace Go.Proofs.YtihmcipajjakgaaGreatDoor
open Go.Proofs Go.IntWalk Go.RowKit
variable {σ : Out} {w : World} {L L' : List Chunk} {R : Ending → World → Prop}
theorem Prints.perm {m : String} {v : Value} {T T' T1 T1' : List Chunk} {f : List UInt8 → List UInt8} (h : Prints m v T T' f) (e : ∀ a, cnt a T1 = cnt a T) (e' : ∀ a, cnt a T1' = cnt a T') : Prints m v T1 T1' f := by
  refine ⟨h.1, fun σ R b l M L w hB hS hb hR => ?_⟩
  refine h.2 σ R b l M L w hB (hS.re fun a => ?_) hb fun w M' hB hS => hR w M' hB (hS.re fun a => ?_)
  · have := e a; simp only [cnt_append]; omega
  · have := e' a; simp only [cnt_append]; omega
theorem docs_print2 {F : List UInt8 → List UInt8 → List UInt8} {D : List DB} {gs : List (List UInt8 → List UInt8)} (h : Show F D gs) : ∀ ts, Filled F (txsC D) ts →
    ∃ KM KM', PrintsL "PrintHTML" (D.map DB.v) KM KM' (compL gs) ∧ (∀ a, cnt a (ownC D ++ fills (txsC D) ts) = cnt a KM) ∧ (∀ a, cnt a (ownC D ++ fills' (txsC D) ts) = cnt a KM') := by
  induction h with
  | nil => intro ts ht; cases ht; exact ⟨[], [], .nil, fun a => rfl, fun a => rfl⟩
  | @cons d g D gs h1 h2 ih =>
    intro ts ht
    have e : txsC (d :: D) = d.txs ++ txsC D := by simp [txsC]
    rw [e] at ht ⊢
    obtain ⟨ts1, ts2, rfl, h3, h4⟩ := ht.split
    obtain ⟨KM, KM', h5, h6, h7⟩ := ih ts2 h4
    refine ⟨_, _, .cons (h1 ts1 h3) h5, fun a => ?_, fun a => ?_⟩
    · have := h6 a
      rw [fills_append h3, show ownC (d :: D) = d.own ++ ownC D by simp [ownC]]
      simp only [cnt_append] at this ⊢
      omega
    · have := h7 a
      rw [fills'_append h3, show ownC (d :: D) = d.own ++ ownC D by simp [ownC]]
      simp only [cnt_append] at this ⊢
      omega
theorem meth_Item : methB P ty_P_Item "PrintHTML" i_Item_PrintHTML = true := by kernel_rfl
theorem meth_List : methB P ty_P_List "PrintHTML" i_List_PrintHTML = true := by kernel_rfl
theorem meth_Text : methB P ty_P_Text "PrintHTML" i_Text_PrintHTML = true := by kernel_rfl
def isText : Value → Bool
  | .iface ty _ => Nat.beq ty ty_P_Text
  | _ => false
def nlT (v : Value) (l : List UInt8) : List UInt8 := if isText v then l ++ [10] else l
theorem nlT_le (v : Value) (l : List UInt8) : l.length ≤ (nlT v l).length := by unfold nlT; split <;> simp
inductive PrintsT : List Value → List Chunk → List Chunk → (List UInt8 → List UInt8) → Prop where
  | nil : PrintsT [] [] [] id
  | one {v : Value} {T T' : List Chunk} {f : List UInt8 → List UInt8} : (∃ ty q, v = .iface ty (.pointer q)) → Prints "PrintHTML" v T T' f → PrintsT [v] T T' f
  | cons {v v2 : Value} {vs : List Value} {T T' K K' : List Chunk} {f g : List UInt8 → List UInt8} : (∃ ty q, v = .iface ty (.pointer q)) → Prints "PrintHTML" v T T' f → PrintsT (v2 :: vs) K K' g → PrintsT (v :: v2 :: vs) (T ++ K) (T' ++ K') (fun l => g (nlT v (f l)))
theorem PrintsT.mono {vs : List Value} {K K' : List Chunk} {f : List UInt8 → List UInt8} (h : PrintsT vs K K' f) : ∀ l, l.length ≤ (f l).length := by
  induction h with
  | nil => exact fun l => Nat.le_refl _
  | one _ h1 => exact h1.1
  | cons _ h1 _ ih => exact fun l => Nat.le_trans (Nat.le_trans (h1.1 l) (nlT_le _ _)) (ih _)
def liO : List UInt8 := [60, 108, 105, 62]
def liC : List UInt8 := [60, 47, 108, 105, 62, 10]
def itemHd : List Value → List UInt8
  | [] => []
  | v :: _ => if isText v then [] else [10]
theorem itemHd_cons (v : Value) (vs : List Value) : itemHd (v :: vs) = if isText v then [] else [10] := rfl
theorem und_PText : P.underlying ty_P_Text = some (.pointer ty_Text) := by kernel_rfl
theorem ta_text {ty : TypeId} (q : Option Addr) (w : World) : ∃ r, (Instr.typeAssert (.iface ty (.pointer q)) ty_Block ty_P_Text true).run P w = .ok (.tuple #[.pointer r, .bool (isText (.iface ty (.pointer q)))]) w := by
  by_cases ht : ty = ty_P_Text
  · subst ht
    refine ⟨q, ?_⟩
    rw [show isText (.iface ty_P_Text (.pointer q)) = true by simp [isText]]
    exact ta_yes (by rw [und_PText]; intro ms h; cases h) und_PText w
  · refine ⟨none, ?_⟩
    have e : isText (.iface ty (.pointer q)) = false := by
      show Nat.beq ty ty_P_Text = false
      cases hb : Nat.beq ty ty_P_Text with
      | false => rfl
      | true => exact absurd (Nat.eq_of_beq_eq_true hb) ht
    rw [e]
    exact ta_no (by rw [und_PText]; intro ms h; cases h) und_PText ht (i := (P.info? ty_P_Text).getD default) (by kernel_rfl) (by kernel_rfl) w
theorem item_prints {i : IT} {vs : List Value} {KM KM' : List Chunk} {f : List UInt8 → List UInt8} (hS : Sl 1 ty_Block i.q i.n i.c vs i.IM) (hn : i.n < 1000000) (hP : PrintsT vs KM KM' f) :
    Prints "PrintHTML" i.v (i.chunk :: (i.IM ++ KM)) (i.chunk :: (i.IM ++ KM')) (fun l => f (l ++ liO ++ itemHd vs) ++ liC) := by
  refine ⟨fun l => ?_, fun σ R b l M L w hB h hb hR => enter_meth meth_Item ?_⟩
  · have := hP.mono (l ++ liO ++ itemHd vs)
    simp only [List.length_append] at *; omega
  refine g_Item_PrintHTML.sound ?_
  have hm := hP.mono (l ++ liO ++ itemHd vs)
  have e1 : liO.length = 4 := rfl
  have e2 : liC.length = 6 := rfl
  have hlen : vs.length = i.n := by have := hS.1; omega
  simp only [List.length_append] at hb hm
  refine writeS_ok (s := liO) hB h (by omega) fun w M hB h => ⟨_, _, rfl, nilP_some ?_⟩
  refine ⟨_, _, _, Sat.ld h (List.mem_append_right _ (.head _)) (i := 2) rfl, ?_⟩
  have k1 : ∀ w M, Buf b (l ++ liO ++ itemHd vs) M → Sat σ w (M ++ (i.chunk :: (i.IM ++ KM) ++ L)) → g_Item_PrintHTML.k1 R (some ⟨i.nb, 0, none⟩) (some ⟨b, 0, none⟩) w := by
    intro w M hB h
    refine nilP_some ⟨_, _, _, Sat.ld h (List.mem_append_right _ (.head _)) (i := 2) rfl, ?_⟩
    intro X hX
    have key : ∀ (vs2 : List Value) (KM KM' : List Chunk) (f : List UInt8 → List UInt8), PrintsT vs2 KM KM' f → ∀ (vs1 : List Value) (D : List Chunk) l2 M w, vs1 ++ vs2 = vs → Buf b l2 M → Sat σ w (M ++ (i.IM ++ (i.chunk :: (D ++ (KM ++ L))))) → (f l2).length + 6 ≤ 549755813888 →
        (∀ w M', Buf b (f l2 ++ liC) M' → Sat σ w (M' ++ (i.IM ++ (i.chunk :: (D ++ (KM' ++ L))))) → R (.returned (.tuple #[])) w) → X (some ⟨i.nb, 0, none⟩) (some ⟨b, 0, none⟩) i.q i.n i.c (i.n : Int) (vs1.length : Nat) w := by
      have hEnd : ∀ (vs1 : List Value) (D : List Chunk) l2 M w, vs1 = vs → Buf b l2 M → Sat σ w (M ++ (i.IM ++ (i.chunk :: (D ++ L)))) → l2.length + 6 ≤ 549755813888 → (∀ w M', Buf b (l2 ++ liC) M' → Sat σ w (M' ++ (i.IM ++ (i.chunk :: (D ++ L)))) → R (.returned (.tuple #[])) w) → X (some ⟨i.nb, 0, none⟩) (some ⟨b, 0, none⟩) i.q i.n i.c (i.n : Int) (vs1.length : Nat) w := by
        intro vs1 D l2 M w hv hB h hb hE
        refine hX _ _ _ _ _ _ _ _ (br_false (by rw [hv, hlen]; simp) ?_)
        exact writeS_ok (s := liC) hB h (by omega) fun w M hB h => ⟨_, _, rfl, hE w M hB h⟩
      have hStep : ∀ (v : Value) (rest vs1 : List Value) (D T T' K : List Chunk) (f : List UInt8 → List UInt8) l2 M w, (∃ ty q, v = .iface ty (.pointer q)) → Prints "PrintHTML" v T T' f → vs1 ++ v :: rest = vs → Buf b l2 M → Sat σ w (M ++ (i.IM ++ (i.chunk :: (D ++ (T ++ (K ++ L)))))) → (f l2).length + 1 ≤ 549755813888 →
          (∀ w M', Buf b (if rest = [] then f l2 else nlT v (f l2)) M' → Sat σ w (M' ++ (i.IM ++ (i.chunk :: ((D ++ T') ++ (K ++ L))))) → X (some ⟨i.nb, 0, none⟩) (some ⟨b, 0, none⟩) i.q i.n i.c (i.n : Int) ((vs1 ++ [v]).length : Nat) w) → X (some ⟨i.nb, 0, none⟩) (some ⟨b, 0, none⟩) i.q i.n i.c (i.n : Int) (vs1.length : Nat) w := by
        intro v rest vs1 D T T' K f l2 M w hif hp hv hB h hb hnext
        have hlt : vs1.length < i.n := by rw [← hlen, ← hv]; simp
        refine hX _ _ _ _ _ _ _ _ (br_true (by simp; omega) ⟨by omega, by omega, ?_⟩)
        refine hS.loadMem h (fun x hx => by simp [hx]) (j := vs1.length) (v := v) (by rw [← hv]; simp) fun qb hq hc => ?_
        simp only [Addr.add_lit, Int.toNat_natCast, Nat.mul_one, Nat.zero_add]
        refine ⟨_, hc, ?_⟩
        have h : Sat σ w (M ++ (T ++ (i.IM ++ (i.chunk :: (D ++ (K ++ L)))))) := h.re (by intro _; simp only [List.append_eq, cnt_append, cnt_cons, cnt_nil] <;> omega)
        refine hp.2 σ _ b l2 M _ w hB h (by omega) fun w M' hB h => ⟨rfl, nilP_some ?_⟩
        have h : Sat σ w (M' ++ (i.IM ++ (i.chunk :: ((D ++ T') ++ (K ++ L))))) := h.re (by intro _; simp only [List.append_eq, cnt_append, cnt_cons, cnt_nil] <;> omega)
        refine ⟨_, _, _, Sat.ld h (by simp : i.chunk ∈ _) (i := 2) rfl, ?_⟩
        rw [i64_inc (by omega)]
        have hl1 : ((vs1 ++ [v]).length : Nat) = vs1.length + 1 := by simp
        rw [hl1] at hnext
        cases rest with
        | nil =>
          refine br_false (by rw [← hlen, ← hv]; simp) (hnext w M' ?_ h)
          rw [if_pos rfl]; exact hB
        | cons v2 rest =>
          refine br_true (by rw [← hlen, ← hv]; simp; omega) ?_
          obtain ⟨ty, q, rfl⟩ := hif
          obtain ⟨r, hta⟩ := ta_text (ty := ty) q w
          refine ⟨r, _, w, hta, ?_⟩
          rw [if_neg (by simp)] at hnext
          cases ht : isText (.iface ty (.pointer q)) with
          | true =>
            refine br_true rfl ?_
            refine writeS_ok (s := [10]) hB h (by simp only [List.length_cons, List.length_nil]; omega) fun w M hB h => ⟨_, _, rfl, hnext w M ?_ h⟩
            unfold nlT; rw [ht]; exact hB
          | false =>
            refine br_false rfl (hnext w M' ?_ h)
            unfold nlT; rw [ht]; exact hB
      intro vs2 KM KM' f hP
      induction hP with
      | nil =>
        intro vs1 D l2 M w hv hB h hb hE
        exact hEnd vs1 D l2 M w (by simpa using hv) hB h hb hE
      | @one v T T' f hif hp =>
        intro vs1 D l2 M w hv hB h hb hE
        have h : Sat σ w (M ++ (i.IM ++ (i.chunk :: (D ++ (T ++ ([] ++ L)))))) := h
        refine hStep v [] vs1 D T T' [] f l2 M w hif hp hv hB h (by omega) fun w M' hB h => ?_
        rw [if_pos rfl] at hB
        have h : Sat σ w (M' ++ (i.IM ++ (i.chunk :: ((D ++ T') ++ L)))) := h
        exact hEnd (vs1 ++ [v]) (D ++ T') (f l2) M' w hv hB h hb (fun w M' hB h => hE w M' hB (h.re (by intro _; simp only [List.append_eq, cnt_append, cnt_cons, cnt_nil] <;> omega)))
      | @cons v v2 vs2 T T' K K' f g hif hp hP2 ih =>
        intro vs1 D l2 M w hv hB h hb hE
        have hb : (g (nlT v (f l2))).length + 6 ≤ 549755813888 := hb
        have hmo := hP2.mono (nlT v (f l2))
        have hmo2 := nlT_le v (f l2)
        have h : Sat σ w (M ++ (i.IM ++ (i.chunk :: (D ++ (T ++ (K ++ L)))))) := h.re (by intro _; simp only [List.append_eq, cnt_append, cnt_cons, cnt_nil] <;> omega)
        refine hStep v (v2 :: vs2) vs1 D T T' K f l2 M w hif hp hv hB h (by omega) fun w M' hB h => ?_
        rw [if_neg (by simp)] at hB
        exact ih (vs1 ++ [v]) (D ++ T') (nlT v (f l2)) M' w (by simpa using hv) hB h hb (fun w M' hB h => hE w M' hB (h.re (by intro _; simp only [List.append_eq, cnt_append, cnt_cons, cnt_nil] <;> omega)))
    have h : Sat σ w (M ++ (i.IM ++ (i.chunk :: ([] ++ (KM ++ L))))) := h.re (by intro _; simp only [List.append_eq, cnt_append, cnt_cons, cnt_nil] <;> omega)
    have := key vs KM KM' f hP [] [] (l ++ liO ++ itemHd vs) M w rfl hB h (by omega) fun w M' hB h => hR w M' hB (h.re (by intro _; simp only [List.append_eq, cnt_append, cnt_cons, cnt_nil] <;> omega))
    simpa using this
  cases vs with
  | nil =>
    refine br_false (by rw [← hlen]; rfl) (k1 w M ?_ h)
    show Buf b (l ++ liO ++ []) M
    rw [List.append_nil]; exact hB
  | cons v vs =>
    refine br_true (by rw [← hlen]; simp) (nilP_some ?_)
    refine ⟨_, _, _, Sat.ld h (List.mem_append_right _ (.head _)) (i := 2) rfl, by decide, by rw [← hlen]; simp, ?_⟩
    refine hS.loadMem h (fun x hx => by simp [hx]) (j := 0) (v := v) rfl fun qb hq hc => ?_
    simp only [Addr.add_lit, Int.toNat_natCast, Nat.mul_one, Nat.zero_add]
    refine ⟨_, hc, ?_⟩
    have hif : ∃ ty q, v = .iface ty (.pointer q) := by cases hP with | one hi' _ => exact hi' | cons hi' _ _ => exact hi'
    obtain ⟨ty, q, rfl⟩ := hif
    obtain ⟨r, hta⟩ := ta_text (ty := ty) q w
    refine ⟨r, _, w, hta, ?_⟩
    cases ht : isText (.iface ty (.pointer q)) with
    | true =>
      refine br_false rfl (k1 w M ?_ h)
      rw [itemHd_cons, ht]
      show Buf b (l ++ liO ++ []) M
      rw [List.append_nil]; exact hB
    | false =>
      refine br_true rfl ?_
      have hh : (itemHd (.iface ty (.pointer q) :: vs)).length = 1 := by rw [itemHd_cons, ht]; rfl
      refine writeS_ok (s := [10]) hB h (by simp only [List.length_append, List.length_cons, List.length_nil]; omega) fun w M hB h => ⟨_, _, rfl, k1 w M ?_ h⟩
      rw [itemHd_cons, ht]; exact hB
inductive ShowT (F : List UInt8 → List UInt8 → List UInt8) : List DB → (List UInt8 → List UInt8) → Prop where
  | nil : ShowT F [] id
  | one {d : DB} {f : List UInt8 → List UInt8} : d.ifc → d.shows F f → ShowT F [d] f
  | cons {d d2 : DB} {D : List DB} {f g : List UInt8 → List UInt8} : d.ifc → d.shows F f → ShowT F (d2 :: D) g → ShowT F (d :: d2 :: D) (fun l => g (nlT d.v (f l)))
theorem docs_printT {F : List UInt8 → List UInt8 → List UInt8} {D : List DB} {f : List UInt8 → List UInt8} (h : ShowT F D f) : ∀ ts, Filled F (txsC D) ts →
    ∃ KM KM', PrintsT (D.map DB.v) KM KM' f ∧ (∀ a, cnt a (ownC D ++ fills (txsC D) ts) = cnt a KM) ∧ (∀ a, cnt a (ownC D ++ fills' (txsC D) ts) = cnt a KM') := by
  induction h with
  | nil => intro ts ht; cases ht; exact ⟨[], [], .nil, fun a => rfl, fun a => rfl⟩
  | @one d f hif hs =>
    intro ts ht
    have e : txsC [d] = d.txs := by simp [txsC]
    rw [e] at ht ⊢
    exact ⟨_, _, .one hif (hs ts ht), fun a => by simp [ownC], fun a => by simp [ownC]⟩
  | @cons d d2 D f g hif hs h2 ih =>
    intro ts ht
    have e : txsC (d :: d2 :: D) = d.txs ++ txsC (d2 :: D) := by simp [txsC]
    rw [e] at ht ⊢
    obtain ⟨ts1, ts2, rfl, h3, h4⟩ := ht.split
    obtain ⟨KM, KM', h5, h6, h7⟩ := ih ts2 h4
    refine ⟨_, _, .cons hif (hs ts1 h3) h5, fun a => ?_, fun a => ?_⟩
    · have := h6 a
      rw [fills_append h3, show ownC (d :: d2 :: D) = d.own ++ ownC (d2 :: D) by simp [ownC]]
      simp only [cnt_append] at this ⊢
      omega
    · have := h7 a
      rw [fills'_append h3, show ownC (d :: d2 :: D) = d.own ++ ownC (d2 :: D) by simp [ownC]]
      simp only [cnt_append] at this ⊢
      omega
theorem item_shows {F : List UInt8 → List UInt8 → List UInt8} {i : IT} {f : List UInt8 → List UInt8} (hi : i.ok) (hD : ShowT F i.D f) : i.db.shows F (fun l => f (l ++ liO ++ itemHd (i.D.map DB.v)) ++ liC) := by
  intro ts ht
  obtain ⟨KM, KM', hP, h1, h2⟩ := docs_printT hD ts ht
  refine (item_prints hi.sl (by rw [IT.n_eq hi]; exact hi.len) hP).perm (fun a => ?_) fun a => ?_
  · have := h1 a
    show cnt a (i.chunk :: (i.IM ++ ownC i.D) ++ fills (txsC i.D) ts) = _
    simp only [cnt_append, cnt_cons] at this ⊢; omega
  · have := h2 a
    show cnt a (i.chunk :: (i.IM ++ ownC i.D) ++ fills' (txsC i.D) ts) = _
    simp only [cnt_append, cnt_cons] at this ⊢; omega
def lisDB (nb s e : Nat) (bul num : Int) (lo : Bool) (q : Option Addr) (n c : Nat) (IM : List Chunk) (items : List IT) : DB :=
  ⟨.iface ty_P_List (.pointer (some ⟨nb, 0, none⟩)), lstC nb s e bul num lo q n c :: (IM ++ ownC (items.map IT.db)), txsC (items.map IT.db)⟩
def ulO : List UInt8 := [60, 117, 108, 62, 10]
def ulC : List UInt8 := [60, 47, 117, 108, 62, 10]
theorem list_prints {nb s e : Nat} {bul num : Int} {lo : Bool} {q : Option Addr} {n c : Nat} {vs : List Value} {RM KM KM' : List Chunk} {f : List UInt8 → List UInt8} (hbul : bul ≠ 46 ∧ bul ≠ 41) (hS : Sl 1 ty_Block q n c vs RM) (hn : n < 4611686018427387904) (hP : PrintsL "PrintHTML" vs KM KM' f) :
    Prints "PrintHTML" (.iface ty_P_List (.pointer (some ⟨nb, 0, none⟩))) (lstC nb s e bul num lo q n c :: (RM ++ KM)) (lstC nb s e bul num lo q n c :: (RM ++ KM')) (fun l => f (l ++ ulO) ++ ulC) := by
  refine ⟨fun l => ?_, fun σ R b l M L w hB h hb hR => enter_meth meth_List ?_⟩
  · have := hP.mono (l ++ ulO)
    simp only [List.length_append] at *; omega
  refine g_List_PrintHTML.sound ?_
  have hm := hP.mono (l ++ ulO)
  have e1 : ulO.length = 5 := rfl
  have e2 : ulC.length = 6 := rfl
  have b1 : (bul == 46) = false := by simpa using hbul.1
  have b2 : (bul == 41) = false := by simpa using hbul.2
  simp only [List.length_append] at hb hm
  refine nilP_some ⟨_, Sat.ld h (List.mem_append_right _ (.head _)) (i := 2) rfl, br_false b1 (nilP_some ⟨_, Sat.ld h (List.mem_append_right _ (.head _)) (i := 2) rfl, ?_⟩)⟩
  rw [b2]
  refine br_false rfl ?_
  refine writeS_ok (s := ulO) hB h (by omega) fun w M hB h => ⟨_, _, rfl, nilP_some ?_⟩
  refine ⟨_, _, _, Sat.ld h (List.mem_append_right _ (.head _)) (i := 5) rfl, ?_⟩
  intro X hX
  have h : Sat σ w (M ++ (RM ++ (KM ++ (lstC nb s e bul num lo q n c :: L)))) := h.re (by intro _; simp only [List.append_eq, cnt_append, cnt_cons, cnt_nil] <;> omega)
  refine printLoop (X := fun j w => X (some ⟨nb, 0, none⟩) (some ⟨b, 0, none⟩) q n c (n : Int) j w) (END := fun w => nilP (some ⟨nb, 0, none⟩) fun a27 => ∃ (v28 : Int), w.cell? (a27.add 2) = some (.int .i32 v28) ∧
      br (v28 == 46) (g_List_PrintHTML.k3 R (some ⟨b, 0, none⟩) true w) (nilP (some ⟨nb, 0, none⟩) fun a29 => ∃ (v30 : Int), w.cell? (a29.add 2) = some (.int .i32 v30) ∧ g_List_PrintHTML.k3 R (some ⟨b, 0, none⟩) (v30 == 41) w)) hS (fun j w hj => hX _ _ _ _ _ _ _ _ hj) hP hB h hn (by omega) fun w M' hB h => ?_
  have hmem : lstC nb s e bul num lo q n c ∈ M' ++ (RM ++ (KM' ++ (lstC nb s e bul num lo q n c :: L))) := by simp
  refine nilP_some ⟨_, Sat.ld h hmem (i := 2) rfl, br_false b1 (nilP_some ⟨_, Sat.ld h hmem (i := 2) rfl, ?_⟩)⟩
  rw [b2]
  refine br_false rfl ?_
  refine writeS_ok (s := ulC) hB h (by omega) fun w M hB h => ⟨_, _, rfl, ?_⟩
  exact hR w M hB (h.re (by intro _; simp only [List.append_eq, cnt_append, cnt_cons, cnt_nil] <;> omega))
theorem list_shows {F : List UInt8 → List UInt8 → List UInt8} {nb s e : Nat} {bul num : Int} {lo : Bool} {q : Option Addr} {n c : Nat} {IM : List Chunk} {items : List IT} {gs : List (List UInt8 → List UInt8)} (hbul : bul ≠ 46 ∧ bul ≠ 41) (hS : Sl 1 ty_Block q n c (items.map IT.v) IM) (hn : n < 4611686018427387904) (hD : Show F (items.map IT.db) gs) :
    (lisDB nb s e bul num lo q n c IM items).shows F (fun l => compL gs (l ++ ulO) ++ ulC) := by
  intro ts ht
  obtain ⟨KM, KM', hP, h1, h2⟩ := docs_print2 hD ts ht
  have ev : (items.map IT.db).map DB.v = items.map IT.v := by simp [Function.comp_def, IT.db]
  rw [ev] at hP
  refine (list_prints (nb := nb) (s := s) (e := e) (num := num) (lo := lo) hbul hS hn hP).perm (fun a => ?_) fun a => ?_
  · have := h1 a
    show cnt a (lstC nb s e bul num lo q n c :: (IM ++ ownC (items.map IT.db)) ++ fills (txsC (items.map IT.db)) ts) = _
    simp only [cnt_append, cnt_cons] at this ⊢; omega
  · have := h2 a
    show cnt a (lstC nb s e bul num lo q n c :: (IM ++ ownC (items.map IT.db)) ++ fills' (txsC (items.map IT.db)) ts) = _
    simp only [cnt_append, cnt_cons] at this ⊢; omega
theorem text_shows {F : List UInt8 → List UInt8 → List UInt8} {nb t s e : Nat} {raw : List UInt8} : (tightDB (paraDB nb t s e raw)).shows F (F raw) := by
  rw [tightDB_para]
  intro ts ht
  cases ht with
  | @cons x t1 xs ts h1 h2 h3 =>
    cases h3
    rw [← h2]
    refine ⟨h1.2.2.mono, fun σ R b l M L w hB h hb hR => enter_meth meth_Text ?_⟩
    have h : Sat σ w (M ++ (textC t s e t1.q t1.n t1.c raw :: (t1.RM ++ (t1.KM ++ (paraC nb s e t :: L))))) := by
      simp only [fills, fill, List.append_nil] at h
      exact h.re (by intro _; simp only [List.append_eq, cnt_append, cnt_cons, cnt_nil] <;> omega)
    refine textPrint_ok h1.1 (by have := h1.2.1; omega) h1.2.2 hB h hb fun w M hB h => hR w M hB ?_
    simp only [fills', fill', List.append_nil]
    exact h.re (by intro _; simp only [List.append_eq, cnt_append, cnt_cons, cnt_nil] <;> omega)
end Go.Proofs.YtihmcipajjakgaaGreatDoor


set_option linter.unusedVariables false
namespace Go.Proofs.YtihmcipajjakgaaGreatDoor
open Go.Proofs Go.IntWalk Go.RowKit
variable {σ : Out} {w : World} {L L' : List Chunk} {R : Ending → World → Prop}
structure Bk where
  ob : OB
  own : List Chunk
  D : List DB
  IM : List Chunk
def Bk.ok (f : Bk) : Prop := Sl 1 ty_Block f.ob.q f.ob.n f.ob.c (f.D.map DB.v) f.IM ∧ f.D.length < 100000 ∧ f.ob.s < 1000000000 ∧ f.ob.e < 1000000000
def txc (D : List DB) : List Chunk := (txsC D).map TX.chunk
def Bk.mem (f : Bk) : List Chunk := f.IM ++ (f.own ++ (ownC f.D ++ txc f.D))
def memFs (fs : List Bk) : List Chunk := fs.flatMap Bk.mem
def txF (fs : List Bk) : List TX := fs.flatMap fun f => txsC f.D
theorem memFs_append (a b : List Bk) : memFs (a ++ b) = memFs a ++ memFs b := by simp [memFs]
theorem memFs_one (f : Bk) : memFs [f] = f.IM ++ (f.own ++ (ownC f.D ++ txc f.D)) := by simp [memFs, Bk.mem]
theorem memFs_two (f g : Bk) : memFs [f, g] = f.IM ++ (f.own ++ (ownC f.D ++ txc f.D)) ++ (g.IM ++ (g.own ++ (ownC g.D ++ txc g.D))) := by simp [memFs, Bk.mem]
theorem txF_append (a b : List Bk) : txF (a ++ b) = txF a ++ txF b := by simp [txF]
theorem txF_one (f : Bk) : txF [f] = txsC f.D := by simp [txF]
theorem txF_two (f g : Bk) : txF [f, g] = txsC f.D ++ txsC g.D := by simp [txF]
theorem txc_snoc (D : List DB) (d : DB) : txc (D ++ [d]) = txc D ++ d.txs.map TX.chunk := by simp [txc, txsC_snoc]
def DocC (σ : Out) (b : Nat) (L : List Chunk) (fs : List Bk) (lf : Leaf) (p : PS) (w : World) : Prop :=
  ∃ M TM lobs LM, Stk p (fs.map Bk.ob ++ lobs) M ∧ Txts p ((txF fs).map TX.t) TM ∧ (∀ f ∈ fs, f.ok) ∧ LeafAt lf lobs LM ∧ Sat σ w (p.at b :: M ++ (TM ++ (memFs fs ++ (LM ++ L))))
def Bk.like (f' f : Bk) : Prop := f'.ob.bd = f.ob.bd ∧ f'.ob.s = f.ob.s ∧ f'.ob.e = f.ob.e ∧ f'.own = f.own
theorem DocC.closed {b : Nat} {gs : List Bk} {par f : Bk} {p2 : PS} {M2 IM2 TM : List Chunk} {q' : Option Addr} {c' : Nat} {d : DB} {own' : List Chunk} (hok : ∀ g ∈ gs ++ [par, f], Bk.ok g) (hD : par.D.length < 99999)
    (hs2 : Stk p2 (gs.map Bk.ob ++ [{ par.ob with q := q', n := par.ob.n + 1, c := c' }]) M2) (hI2 : Sl 1 ty_Block q' (par.ob.n + 1) c' (par.D.map DB.v ++ [d.v]) IM2) (ht : Txts p2 ((txF (gs ++ [par, f])).map TX.t) TM) (htx : d.txs = txsC f.D)
    (h : Sat σ w (p2.at b :: M2 ++ (IM2 ++ (TM ++ (memFs gs ++ (own' ++ (ownC par.D ++ (txc par.D ++ (d.own ++ (txc f.D ++ L)))))))))) :
    DocC σ b L (gs ++ [⟨{ par.ob with q := q', n := par.ob.n + 1, c := c' }, own', par.D ++ [d], IM2⟩]) .none p2 w := by
  refine ⟨M2, TM, [], [], ?_, ?_, ?_, ⟨rfl, rfl⟩, ?_⟩
  · rw [List.map_append, List.append_nil]; exact hs2
  · have e : txF (gs ++ [⟨{ par.ob with q := q', n := par.ob.n + 1, c := c' }, own', par.D ++ [d], IM2⟩]) = txF (gs ++ [par, f]) := by
      rw [txF_append, txF_append, txF_one, txF_two, txsC_snoc, htx]
    rw [e]; exact ht
  · intro g hg
    rcases List.mem_append.1 hg with hg | hg
    · exact hok g (by simp [hg])
    · obtain rfl := List.mem_singleton.1 hg
      obtain ⟨_, h2, h3⟩ := hok par (by simp)
      exact ⟨by rw [List.map_append]; exact hI2, by simp; omega, h3⟩
  · rw [memFs_append, memFs_one, ownC_snoc, txc_snoc, htx]
    show Sat σ w (p2.at b :: M2 ++ (TM ++ (memFs gs ++ (IM2 ++ (own' ++ ((ownC par.D ++ d.own) ++ (txc par.D ++ txc f.D)))) ++ ([] ++ L))))
    exact h.re (by intro _; simp only [List.append_eq, cnt_append, cnt_cons, cnt_nil] <;> omega)
theorem itemBuild_ok {b ib lb wd : Nat} {hv : Bool} {bul num : Int} {lo : Bool} {it : Option Addr} {td : Value} {p : PS} {ob : List OB} {o : OB} {M : List Chunk} (h : Sat σ w (p.at b :: M ++ (iteC ib lb wd hv :: lisC lb bul num lo it td :: L))) (hs : Stk p (ob ++ [o]) M)
    (hR : ∀ w nb, Sat σ w (p.at b :: M ++ ((nb, cel [.int .i64 o.s, .int .i64 o.e, .slice o.q o.n o.c, .int .i64 wd] ty_Item) :: lisC lb bul num lo none td :: L)) → R (.returned (.iface ty_P_Item (.pointer (some ⟨nb, 0, none⟩)))) w) :
    callE P i_itemBuilder_build #[.pointer (some ⟨ib, 0, none⟩), .iface ty_P_parseState (.pointer (some ⟨b, 0, none⟩))] R w := by
  refine g_itemBuilder_build.sound ?_
  have h : Sat σ w (lisC lb bul num lo it td :: iteC ib lb wd hv :: (p.at b :: M ++ L)) := h.re (by intro _; simp only [List.append_eq, cnt_append, cnt_cons, cnt_nil] <;> omega)
  refine nilP_some ⟨_, Sat.ld h (.tail _ (.head _)) (i := 0) rfl, nilP_some ?_⟩
  refine h.stA 0 fun w h => ?_
  have h : Sat σ w (lisC lb bul num lo none td :: iteC ib lb wd hv :: (p.at b :: M ++ L)) := h
  refine Sat.tk h fun w h => nilP_some ⟨_, Sat.ld h (.tail _ (.head _)) (i := 1) rfl, ?_⟩
  have h0 := h
  have h : Sat σ w (p.at b :: M ++ (lisC lb bul num lo none td :: iteC ib lb wd hv :: L)) := h.re (by intro _; simp only [List.append_eq, cnt_append, cnt_cons, cnt_nil] <;> omega)
  have hm : iteC ib lb wd hv ∈ p.at b :: M ++ (lisC lb bul num lo none td :: iteC ib lb wd hv :: L) := by simp
  refine enter_meth meth_pos ?_
  refine pos_ok h hs fun w h => ⟨_, _, rfl, h0.same h (.tail _ (.head _)) hm 1, ?_⟩
  have h1 := h
  refine enter_meth meth_blocks ?_
  refine blocks_ok h hs fun w h => ⟨_, _, _, rfl, h1.same h hm hm 1, ?_⟩
  refine Sat.bx h fun nb w h => hR w nb ?_
  have h : Sat σ w ((nb, cel [.int .i64 o.s, .int .i64 o.e, .slice o.q o.n o.c, .int .i64 wd] ty_Item) :: (p.at b :: M ++ (lisC lb bul num lo none td :: iteC ib lb wd hv :: L))) := h
  exact h.less [iteC ib lb wd hv] (by intro _; simp only [List.append_eq, cnt_append, cnt_cons, cnt_nil] <;> omega)
def Bk.isItem (f : Bk) (lb wd : Nat) (hv : Bool) : Prop := ∃ ib, f.ob.bd = iteV ib ∧ f.own = [iteC ib lb wd hv]
def ItemOf (it : Option Addr) (f : Bk) (lb wd : Nat) (hv : Bool) : Prop := ∃ ib, it = some ⟨ib, 0, none⟩ ∧ f.ob.bd = iteV ib ∧ f.own = [iteC ib lb wd hv]
theorem ItemOf.item {it : Option Addr} {f : Bk} {lb wd : Nat} {hv : Bool} (h : ItemOf it f lb wd hv) : f.isItem lb wd hv := ⟨h.choose, h.choose_spec.2⟩
def Bk.isListT (f : Bk) (lb : Nat) (bul num : Int) (it : Option Addr) (td : Value) : Prop := f.ob.bd = lisV lb ∧ f.own = [lisC lb bul num false it td]
abbrev Bk.isList (f : Bk) (lb : Nat) (bul num : Int) (it : Option Addr) : Prop := f.isListT lb bul num it .nilFunc
theorem closeItemC {b lb wd : Nat} {hv : Bool} {bul num : Int} {it : Option Addr} {td : Value} {gs : List Bk} {par f : Bk} {p : PS} (h : DocC σ b L (gs ++ [par, f]) .none p w) (hf : f.isItem lb wd hv) (hp : par.isListT lb bul num it td) (hD : par.D.length < 99999)
    (hR : ∀ w par' nb x, par'.isListT lb bul num none td → par'.ob.s = par.ob.s → par'.ob.e = par.ob.e → par'.D = par.D ++ [(IT.mk nb f.ob.s f.ob.e f.ob.q f.ob.n f.ob.c wd f.IM f.D).db] → (IT.mk nb f.ob.s f.ob.e f.ob.q f.ob.n f.ob.c wd f.IM f.D).ok → DocC σ b L (gs ++ [par']) .none { p with stn := gs.length + 1 } w → R (.returned x) w) :
    callE P i_parseState_closeBlock #[.pointer (some ⟨b, 0, none⟩)] R w := by
  obtain ⟨M, TM, lobs, LM, hs, ht, hok, ⟨rfl, rfl⟩, h⟩ := h
  obtain ⟨ib, hbd, hown⟩ := hf
  obtain ⟨pbd, pown⟩ := hp
  have hs : Stk p (gs.map Bk.ob ++ [par.ob] ++ [f.ob]) M := by simpa using hs
  have hpok := (hok par (by simp)).1
  obtain ⟨hfo1, hfo2, hfo3⟩ := hok f (by simp)
  have hpn : par.ob.n = par.D.length := by have := hpok.1; simp at this; omega
  rw [memFs_append, memFs_two, hown, pown] at h
  refine closeB_build h hs hbd fun w h => ?_
  rw [hbd]
  have h : Sat σ w (p.at b :: M ++ (iteC ib lb wd hv :: lisC lb bul num false it td :: (par.IM ++ (TM ++ (memFs gs ++ (ownC par.D ++ (txc par.D ++ (f.IM ++ (ownC f.D ++ (txc f.D ++ L)))))))))) := h.re (by intro _; simp only [List.append_eq, cnt_append, cnt_cons, cnt_nil] <;> omega)
  refine enter_meth meth_itemBuild ?_
  refine itemBuild_ok h hs fun w nb h => ⟨_, rfl, none, false, w, ta_list_no (by decide) w, br_false rfl ?_⟩
  have h : Sat σ w (p.at b :: M ++ (par.IM ++ (TM ++ (memFs gs ++ ([lisC lb bul num false none td] ++ (ownC par.D ++ (txc par.D ++ (((IT.mk nb f.ob.s f.ob.e f.ob.q f.ob.n f.ob.c wd f.IM f.D).chunk :: (f.IM ++ ownC f.D)) ++ (txc f.D ++ L))))))))) := by
    have h : Sat σ w (p.at b :: M ++ ((IT.mk nb f.ob.s f.ob.e f.ob.q f.ob.n f.ob.c wd f.IM f.D).chunk :: lisC lb bul num false none td :: (par.IM ++ (TM ++ (memFs gs ++ (ownC par.D ++ (txc par.D ++ (f.IM ++ (ownC f.D ++ (txc f.D ++ L)))))))))) := h
    exact h.re (by intro _; simp only [List.append_eq, cnt_append, cnt_cons, cnt_nil] <;> omega)
  refine closeB_k3 h hs hpok (by omega) fun w p2 M2 IM2 q' c' hp2 hs2 hI2 h => ?_
  have e : p2 = { p with stn := gs.length + 1 } := by rw [hp2, List.length_map]
  rw [e] at hs2 h
  refine hR w ⟨{ par.ob with q := q', n := par.ob.n + 1, c := c' }, [lisC lb bul num false none td], par.D ++ [(IT.mk nb f.ob.s f.ob.e f.ob.q f.ob.n f.ob.c wd f.IM f.D).db], IM2⟩ nb _ ⟨pbd, rfl⟩ rfl rfl rfl ⟨hfo1, by show f.D.length < 1000000; omega, hfo3⟩ (DocC.closed (par := par) (f := f) (d := (IT.mk nb f.ob.s f.ob.e f.ob.q f.ob.n f.ob.c wd f.IM f.D).db) hok hD hs2 hI2 (ht.of rfl rfl rfl) rfl ?_)
  exact h
theorem closeParaC {b : Nat} {gs : List Bk} {par : Bk} {p : PS} {ls : List (List UInt8)} (h : DocC σ b L (gs ++ [par]) (.para ls) p w) (hf : Leaf.finN (.para ls)) (hD : par.D.length < 99999) (hX : (txF (gs ++ [par])).length < 100000)
    (hR : ∀ w p' par' nb t s e x, p'.base = p.base → p'.depth = p.depth → p'.lineno = p.lineno → p'.stn = gs.length + 1 → par'.like par → par'.D = par.D ++ [paraDB nb t s e (joinL [10] ls)] → e = s + ls.length - 1 → s < 1000000000 → DocC σ b L (gs ++ [par']) .none p' w → R (.returned x) w) :
    callE P i_parseState_closeBlock #[.pointer (some ⟨b, 0, none⟩)] R w := by
  obtain ⟨M, TM, lobs, LM, hs, ht, hok, ⟨qb, s, e, rfl, hp, hs1, hne, hln⟩, h⟩ := h
  obtain ⟨hf1, hf2, hf3⟩ := hf
  have hs : Stk p (gs.map Bk.ob ++ [par.ob] ++ [paraOB qb s e]) M := by simpa using hs
  obtain ⟨hpok, hpok2⟩ := hok par (by simp)
  have hpn : par.ob.n = par.D.length := by have := hpok.1; simp at this; omega
  rw [memFs_append, memFs_one] at h
  have h : Sat σ w (p.at b :: M ++ (par.IM ++ (TM ++ (LM ++ (memFs gs ++ (par.own ++ (ownC par.D ++ (txc par.D ++ L)))))))) := h.re (by intro _; simp only [List.append_eq, cnt_append, cnt_cons, cnt_nil] <;> omega)
  refine closePara_ok (ob := gs.map Bk.ob) (par := par.ob) (o := paraOB qb s e) h hs rfl hpok (by omega) ht (by simp; omega) hp hne (by omega) rfl hf1 hf2 hf3 (by exact hs1) fun w p' M' IM' TM' t nb q' c' x hp' hs' ht' hI' h => ?_
  refine hR w p' ⟨{ par.ob with q := q', n := par.ob.n + 1, c := c' }, par.own, par.D ++ [paraDB nb t s (s + ls.length - 1) (joinL [10] ls)], IM'⟩ nb t s (s + ls.length - 1) x (by rw [hp']; rfl) (by rw [hp']) (by rw [hp']) (by rw [hp']; simp) ⟨rfl, rfl, rfl, rfl⟩ rfl rfl hs1 ?_
  refine ⟨M', TM', [], [], ?_, ?_, ?_, ⟨rfl, rfl⟩, ?_⟩
  · rw [List.map_append, List.append_nil]; exact hs'
  · have e : txF (gs ++ [⟨{ par.ob with q := q', n := par.ob.n + 1, c := c' }, par.own, par.D ++ [paraDB nb t s (s + ls.length - 1) (joinL [10] ls)], IM'⟩]) = txF (gs ++ [par]) ++ [⟨t, s, s + ls.length - 1, joinL [10] ls⟩] := by
      rw [txF_append, txF_append, txF_one, txF_one, txsC_snoc, List.append_assoc]; rfl
    rw [e, List.map_append]; exact ht'
  · intro g hg
    rcases List.mem_append.1 hg with hg | hg
    · exact hok g (by simp [hg])
    · obtain rfl := List.mem_singleton.1 hg
      exact ⟨by rw [List.map_append]; exact hI', by simp; omega, hpok2.2⟩
  · rw [memFs_append, memFs_one, ownC_snoc, txc_snoc]
    have h : Sat σ w (p'.at b :: M' ++ (IM' ++ (TM' ++ (paraC nb s (s + ls.length - 1) t :: textC t s (s + ls.length - 1) none 0 0 (joinL [10] ls) :: (memFs gs ++ (par.own ++ (ownC par.D ++ (txc par.D ++ L)))))))) := h
    show Sat σ w (p'.at b :: M' ++ (TM' ++ (memFs gs ++ (IM' ++ (par.own ++ ((ownC par.D ++ [paraC nb s (s + ls.length - 1) t]) ++ (txc par.D ++ [textC t s (s + ls.length - 1) none 0 0 (joinL [10] ls)])))) ++ ([] ++ L))))
    exact h.re (by intro _; simp only [List.append_eq, cnt_append, cnt_cons, cnt_nil] <;> omega)
end Go.Proofs.YtihmcipajjakgaaGreatDoor

