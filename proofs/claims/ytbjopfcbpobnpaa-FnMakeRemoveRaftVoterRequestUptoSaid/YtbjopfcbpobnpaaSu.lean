/- Contracts: printed by tools/sp.py. Own work. -/
import Derived.Test.YtbjopfcbpobnpaaSp
namespace Go.Proofs.Ytbjopfcbpobnpaa.ME
open Go
set_option linter.unusedVariables false
set_option linter.unusedSimpArgs false
set_option maxRecDepth 20000

theorem sUnknown (Af : Option Addr) (cf : Nat) (l : List Fld) (A : Option Addr) (c : Nat) (u : List (Int × Bs)) (w : World) (F : Nat → Nat → Prop) (hl : FldsR w F Af cf l) (hu : TagsR w F A c u) :
    Calls Try.prog 49 #[.slice Af l.length cf, .slice A u.length c] w (GivesU w F (unknownT l u)) := by
  obtain ⟨xf, hf1, hf2⟩ := hl.ex
  obtain ⟨xu, hu1, hu2⟩ := hu.ex
  have hsmu := hu1.small
  have hule : (u.take 32767).length ≤ 32767 := by rw [List.length_take]; omega
  refine enter (n := 85) Try.func49 rfl Try.ntmps49 (by kernel_rfl) fun a hE => ?_
  have hW := WOk.start w Nil
  refine go_seq_region [0] (by kernel_rfl) ?_
  refine go_runs [0] [] [0, 1] hW hE (env' := [(0, .v (.slice Af l.length cf)), (1, .v (.slice A u.length c))]) (by kernel_rfl) rfl fun a1229 hE1230 => ?_
  clear hE
  refine wpOps_nil ?_
  refine then_normal ?_
  refine go_seq_region [0, 1, 2] (by kernel_rfl) ?_
  refine go_runs [0] [1, 2] [1, 11] hW hE1230 (env' := [(1, .v (.slice A u.length c)), (11, .v (.slice Af l.length cf))]) (by kernel_rfl) rfl fun a1231 hE1232 => ?_
  clear hE1230
  refine of_op (wpOp_call hE1232 (f := 105) (vs := [.slice Af l.length cf]) (d := 12) (by kernel_rfl) Try.call105 (sKnown _ _ l _ _ ⟨xf, (hf1.move hW.step nilM hW.imm), (fun i_ x_ h_ => ((hf2 i_ x_ h_).move hW.step nilM hW.imm))⟩) ?_)
  rintro e_ w1234 ⟨rfl, hs1233⟩
  refine ⟨_, rfl, fun a1235 hE1236 => ?_⟩
  have hW1237 := hW.next_nil hs1233
  have hF1238 := Fr.nil [] [] hs1233
  clear hE1232 hW
  refine go_runs [2] [] [1, 5] hW1237 hE1236 (env' := [(1, .v (.slice A u.length c)), (5, .v (.int .u32 (knownI l)))]) (by kernel_rfl) rfl fun a1239 hE1240 => ?_
  clear hE1236
  refine wpOps_nil ?_
  refine then_normal ?_
  refine go_seq_region [0] (by kernel_rfl) ?_
  refine go_runs [0] [] [1, 5, 6] hW1237 hE1240 (env' := [(1, .v (.slice A u.length c)), (5, .v (.int .u32 (knownI l))), (6, .v (.slice none 0 0))]) (by kernel_rfl) rfl fun a1241 hE1242 => ?_
  clear hE1240
  refine wpOps_nil ?_
  refine then_normal ?_
  refine wp_seq ?_
  refine go_seq_region [0, 1, 2, 3, 4, 5, 6] (by kernel_rfl) ?_
  refine go_runs [0, 1, 2, 3] [4, 5, 6] [5, 6, 13, 16] hW1237 hE1242 (env' := [(5, .v (.int .u32 (knownI l))), (6, .v (.slice none 0 0)), (13, .v (.slice A u.length c)), (16, .v (.int .i64 (if 32767 < ((u.length : Nat) : Int) then 32767 else ((u.length : Nat) : Int))))]) (by kernel_rfl) rfl fun a1243 hE1244 => ?_
  clear hE1242
  refine of_op (wpOp_cut_hi hE1244 (t := 24) (A := A) (m := u.length) (cp := c) (q := (if 32767 < ((u.length : Nat) : Int) then 32767 else ((u.length : Nat) : Int))) (d := 17) (j := (u.take 32767).length) (by kernel_rfl) (e := 61) (size := 2) (bytes := 32) (by kernel_rfl) (by simpa using min_lit u.length) (by rw [List.length_take]; have := hu1.le; omega) fun a1245 hE1246 => ?_)
  clear hE1244
  refine go_runs [5, 6] [] [5, 6, 17, 18, 19] hW1237 hE1246 (env' := [(5, .v (.int .u32 (knownI l))), (6, .v (.slice none 0 0)), (17, .v (.slice A ((u.take 32767).length) c)), (18, .v (.int .i64 (((u.take 32767).length : Nat) : Int))), (19, .v (.int .i64 0))]) (by kernel_rfl) rfl fun a1247 hE1248 => ?_
  clear hE1246
  refine wpOps_nil ?_
  refine then_normal ?_
  refine wp_block ?_
  have hW1249 := hW1237.addNil 61 2
  have hF1250 := Fr.addNil w1234 [] [] 61 2
  clear hW1237
  have hE1259 := EnvOk.pick hE1248 (ks := [5, 6, 17, 18, 19]) (env' := [(5, .v (.int .u32 (knownI l))), (6, .v (.slice none 0 0)), (17, .v (.slice A ((u.take 32767).length) c)), (18, .v (.int .i64 (((u.take 32767).length : Nat) : Int))), (19, .v (.int .i64 0))]) (by kernel_rfl)
  refine wp_loop_ghost (fun n_ a_ w_ => ∃ (k : Nat) (A_ : Option Addr) (c_ : Nat) (out : List (Int × Bs)) (css : List (List Value)), n_ = (u.take 32767).length - k ∧ k ≤ (u.take 32767).length ∧ (TagsE w_ (Imm F w w_ [] [⟨A_, c_, 61, 2, out.length, css.flatten⟩]) out css) ∧ (out = ((u.take 32767).take k).foldl (insTag (knownI l)) []) ∧ (out.length ≤ k) ∧ EnvOk 85 [] [(5, .v (.int .u32 (knownI l))), (6, .v (.slice A_ out.length c_)), (17, .v (.slice A ((u.take 32767).length) c)), (18, .v (.int .i64 (((u.take 32767).length : Nat) : Int))), (19, .v (.int .i64 ((k : Nat) : Int)))] a_ ∧ WOk w Nil w_ [] [⟨A_, c_, 61, 2, out.length, css.flatten⟩] ∧ Fr w1234 [] [⟨none, 0, 61, 2, 0, []⟩] w_ [] [⟨A_, c_, 61, 2, out.length, css.flatten⟩]) ((u.take 32767).length) ⟨0, none, 0, [], [], by omega, by omega, TagsE.nil _ _, rfl, Nat.zero_le _, hE1259, hW1249, Fr.refl _ _ _⟩ ?_
  clear hE1259 hE1248 hW1249
  rintro n1251 a1252 w1253 ⟨k, A_, c_, out, css, hn1256, hk1257, hT, hout, hlen, hE1254, hW1255, hF1258⟩
  refine go_seq_region [0] (by kernel_rfl) ?_
  refine go_runs [0] [] [5, 6, 17, 18, 19, 20] hW1255 hE1254 (env' := [(5, .v (.int .u32 (knownI l))), (6, .v (.slice A_ out.length c_)), (17, .v (.slice A ((u.take 32767).length) c)), (18, .v (.int .i64 (((u.take 32767).length : Nat) : Int))), (19, .v (.int .i64 ((k : Nat) : Int))), (20, .v (.bool (decide (((k : Nat) : Int) < (((u.take 32767).length : Nat) : Int)))))]) (by kernel_rfl) rfl fun a1260 hE1261 => ?_
  clear hE1254
  refine wpOps_nil ?_
  refine then_normal ?_
  refine wp_seq ?_
  refine cond_of hE1261 (b := decide (((k : Nat) : Int) < (((u.take 32767).length : Nat) : Int))) (by kernel_rfl) (fun hc1262 => ?_) (fun hc1262 => ?_)
  ·
    have hf1263 := of_decide_eq_true hc1262
    refine wp_skip ?_
    refine then_normal ?_
    refine wp_seq ?_
    refine wp_block ?_
    refine go_seq_region [0, 1, 2, 3] (by kernel_rfl) ?_
    obtain ⟨b1264, o1265, hA1266, hl1267, hat1268⟩ := Slots.get (tags_take_slots hu1 32767) (i := k) (by omega)
    obtain ⟨⟨k1269, s1270⟩, he1271⟩ : ∃ x, (u.take 32767)[k]? = some x := ⟨_, List.getElem?_eq_getElem (by omega)⟩
    obtain ⟨⟨A1272, c1273, hcs1274, hb1275⟩, h1276, h1277⟩ := (tags_take_each hu2 32767) k k1269 s1270 he1271
    rw [hcs1274] at hat1268
    refine of_op (wpOp_index hE1261 (t := 24) (A := A) (m := (u.take 32767).length) (q := ((k : Nat) : Int)) (d := 21) (by kernel_rfl) (e := 61) (size := 2) (bytes := 32) (by kernel_rfl) hA1266 rfl (by omega) fun a1278 hE1279 => ?_)
    clear hE1261
    refine of_op (wpOp_load hE1279 (t := 61) (b := b1264) (o := o1265 + k * 2) (d := 22) (by kernel_rfl) (cs := [.int .u32 k1269, .slice A1272 s1270.length c1273]) (v := .agg #[.int .u32 k1269, .slice A1272 s1270.length c1273]) (by kernel_rfl) (AtF.move hat1268 hW1255.step nilM keepF).at_ fun a1280 hE1281 => ?_)
    clear hE1279
    refine of_op (wpOp_alloc hW1255 hE1281 (d := 8) (cs := [.int .u32 0, .slice none 0 0]) (by kernel_rfl) fun b1282 a1283 w1284 hb1285 hz1286 hF1287 hW1288 hE1289 => ?_)
    clear hE1281 hW1255
    refine of_op (wpOp_store hW1288 hE1289 (oi := 0) (cs := [.int .u32 k1269, .slice A1272 s1270.length c1273]) (by kernel_rfl) fun w1290 hF1291 hW1292 hE1293 => ?_)
    clear hE1289 hW1288
    refine wpOps_nil ?_
    refine then_normal ?_
    refine go_seq_region [0] (by kernel_rfl) ?_
    refine go_runs [0] [] [5, 6, 8, 9, 17, 18, 19] hW1292 hE1293 (env' := [(5, .v (.int .u32 (knownI l))), (6, .v (.slice A_ out.length c_)), (8, .p 0 0), (9, .v (.int .i64 0)), (17, .v (.slice A ((u.take 32767).length) c)), (18, .v (.int .i64 (((u.take 32767).length : Nat) : Int))), (19, .v (.int .i64 ((k : Nat) : Int)))]) (by kernel_rfl) rfl fun a1294 hE1295 => ?_
    clear hE1293
    refine wpOps_nil ?_
    refine then_normal ?_
    refine wp_seq ?_
    refine wp_block ?_
    have hE1303 := EnvOk.pick hE1295 (ks := [5, 6, 8, 9, 17, 18, 19]) (env' := [(5, .v (.int .u32 (knownI l))), (6, .v (.slice A_ out.length c_)), (8, .p 0 0), (9, .v (.int .i64 0)), (17, .v (.slice A ((u.take 32767).length) c)), (18, .v (.int .i64 (((u.take 32767).length : Nat) : Int))), (19, .v (.int .i64 ((k : Nat) : Int)))]) (by kernel_rfl)
    refine wp_loop_ghost (fun n_ a_ w_ => ∃ (i : Nat), n_ = out.length - i ∧ (i ≤ out.length) ∧ (∀ q, q < i → (out.getD q (0, [])).1 < k1269) ∧ EnvOk 85 [⟨b1282, 0, [.int .u32 k1269, .slice A1272 s1270.length c1273], true⟩] [(5, .v (.int .u32 (knownI l))), (6, .v (.slice A_ out.length c_)), (8, .p 0 0), (9, .v (.int .i64 ((i : Nat) : Int))), (17, .v (.slice A ((u.take 32767).length) c)), (18, .v (.int .i64 (((u.take 32767).length : Nat) : Int))), (19, .v (.int .i64 ((k : Nat) : Int)))] a_ ∧ WOk w Nil w_ [⟨b1282, 0, [.int .u32 k1269, .slice A1272 s1270.length c1273], true⟩] [⟨A_, c_, 61, 2, out.length, css.flatten⟩] ∧ Fr w1290 [⟨b1282, 0, [.int .u32 k1269, .slice A1272 s1270.length c1273], true⟩] [⟨A_, c_, 61, 2, out.length, css.flatten⟩] w_ [⟨b1282, 0, [.int .u32 k1269, .slice A1272 s1270.length c1273], true⟩] [⟨A_, c_, 61, 2, out.length, css.flatten⟩]) (out.length - 0) ⟨0, rfl, Nat.zero_le _, fun q h_ => absurd h_ (Nat.not_lt_zero q), hE1303, hW1292, Fr.refl _ _ _⟩ ?_
    clear hE1303 hE1295 hW1292
    rintro n1296 a1297 w1298 ⟨i, hn1301, hi, hlt, hE1299, hW1300, hF1302⟩
    refine wp_seq ?_
    refine go_seq_drawQ (by kernel_rfl) hW1300 fun w1304 hF1305 hW1306 => ?_
    clear hW1300
    refine go_runsD [0, 1, 2, 3, 4] [5, 6, 8, 9, 17, 18, 19, 27] 9 (by kernel_rfl) (panicFree_then (panicFree_then (panicFree_then (panicFree_block (panicFree_then (panicFree_block (panicFree_then (panicFree_then (panicFree_block (panicFree_then panicFree_body)))))))))) (fun _ h => h ▸ hW1306.cells) rfl hE1299 (by kernel_rfl) (env' := [(5, .v (.int .u32 (knownI l))), (6, .v (.slice A_ out.length c_)), (8, .p 0 0), (9, .v (.int .i64 ((i : Nat) : Int))), (17, .v (.slice A ((u.take 32767).length) c)), (18, .v (.int .i64 (((u.take 32767).length : Nat) : Int))), (19, .v (.int .i64 ((k : Nat) : Int))), (27, .v (.bool (decide (((i : Nat) : Int) < ((out.length : Nat) : Int)))))]) (by kernel_rfl) rfl fun a1307 hE1308 => ?_
    clear hE1299
    refine (Bool.eq_false_or_eq_true (decide (((i : Nat) : Int) < ((out.length : Nat) : Int)))).elim (fun hc1309 => ?_) (fun hc1309 => ?_)
    ·
      have hf1310 := of_decide_eq_true hc1309
      have hE1311 := hE1308.cast (env' := [(5, .v (.int .u32 (knownI l))), (6, .v (.slice A_ out.length c_)), (8, .p 0 0), (9, .v (.int .i64 ((i : Nat) : Int))), (17, .v (.slice A ((u.take 32767).length) c)), (18, .v (.int .i64 (((u.take 32767).length : Nat) : Int))), (19, .v (.int .i64 ((k : Nat) : Int))), (27, .v (.bool true))]) (by rw [hc1309])
      clear hE1308
      refine go_runsD [5, 6, 10, 11] [5, 6, 8, 9, 17, 18, 19, 27, 28, 29, 34] 5 (by kernel_rfl) (panicFree_then (panicFree_then (panicFree_then (panicFree_block (panicFree_then (panicFree_block (panicFree_then (panicFree_then (panicFree_block (panicFree_then panicFree_body)))))))))) (fun _ h => h ▸ hW1306.cells) rfl hE1311 (by kernel_rfl) (env' := [(5, .v (.int .u32 (knownI l))), (6, .v (.slice A_ out.length c_)), (8, .p 0 0), (9, .v (.int .i64 ((i : Nat) : Int))), (17, .v (.slice A ((u.take 32767).length) c)), (18, .v (.int .i64 (((u.take 32767).length : Nat) : Int))), (19, .v (.int .i64 ((k : Nat) : Int))), (27, .v (.bool true)), (28, .v (.slice A_ out.length c_)), (29, .v (.int .i64 ((i : Nat) : Int))), (34, .v (.int .u32 k1269))]) (by kernel_rfl) rfl fun a1312 hE1313 => ?_
      clear hE1311
      obtain ⟨g1314, hA1315⟩ := own_addr (hW1306.own 0 _ rfl) (show 0 < out.length by omega)
      obtain ⟨⟨k1317, s1318⟩, hx1319⟩ : ∃ x, out[i]? = some x := ⟨_, List.getElem?_eq_getElem (by omega)⟩
      obtain ⟨A1320, c1321, hc1322, hO1323, h1324, h1325⟩ := TagsE.get2 (hT.move (Fr.trans (Fr.trans (Fr.trans hF1287 hF1291) hF1302) hF1305).step immM (Fr.trans (Fr.trans (Fr.trans hF1287 hF1291) hF1302) hF1305).to') hx1319
      have hat1316 := own_at (hW1306.own 0 _ rfl) hA1315 (flat_cells (hT.move (Fr.trans (Fr.trans (Fr.trans hF1287 hF1291) hF1302) hF1305).step immM (Fr.trans (Fr.trans (Fr.trans hF1287 hF1291) hF1302) hF1305).to').two hc1322)
      refine takeC_index hE1313 (i := 7) (t := 24) (A := A_) (m := out.length) (q := ((i : Nat) : Int)) (d := 30) (by kernel_rfl) (e := 61) (size := 2) (bytes := 32) (by kernel_rfl) (b := g1314) (o := 0) (j := i) hA1315 (rfl) (by omega) (by kernel_rfl) (by kernel_rfl) (panicFree_then (panicFree_then (panicFree_then (panicFree_block (panicFree_then (panicFree_block (panicFree_then (panicFree_then (panicFree_block (panicFree_then panicFree_body)))))))))) rfl fun a1326 hE1327 => ?_
      clear hE1313
      refine go_runsD [8] [5, 6, 8, 9, 17, 18, 19, 27, 31, 34] 3 (by kernel_rfl) (panicFree_then (panicFree_then (panicFree_then (panicFree_block (panicFree_then (panicFree_block (panicFree_then (panicFree_then (panicFree_block (panicFree_then panicFree_body)))))))))) (fun _ h => h ▸ hW1306.cells) rfl hE1327 (by kernel_rfl) (env' := [(5, .v (.int .u32 (knownI l))), (6, .v (.slice A_ out.length c_)), (8, .p 0 0), (9, .v (.int .i64 ((i : Nat) : Int))), (17, .v (.slice A ((u.take 32767).length) c)), (18, .v (.int .i64 (((u.take 32767).length : Nat) : Int))), (19, .v (.int .i64 ((k : Nat) : Int))), (27, .v (.bool true)), (31, .v (.pointer (some ⟨g1314, 0 + i * 2, none⟩))), (34, .v (.int .u32 k1269))]) (by kernel_rfl) rfl fun a1328 hE1329 => ?_
      clear hE1327
      refine takeC_load hE1329 (i := 9) (t := 59) (b := g1314) (o := 0 + i * 2) (d := 32) (by kernel_rfl) (cs := [.int .u32 k1317]) (v := .int .u32 k1317) (by kernel_rfl) (fun w' h' => h' ▸ (At.drop hat1316 0 1)) (by kernel_rfl) (by kernel_rfl) (panicFree_then (panicFree_then (panicFree_then (panicFree_block (panicFree_then (panicFree_block (panicFree_then (panicFree_then (panicFree_block (panicFree_then panicFree_body)))))))))) rfl fun a1330 hE1331 => ?_
      clear hE1329
      refine go_runsD [12, 13] [5, 6, 8, 9, 17, 18, 19, 36] 0 (by kernel_rfl) (panicFree_then (panicFree_then (panicFree_then (panicFree_block (panicFree_then (panicFree_block (panicFree_then (panicFree_then (panicFree_block (panicFree_then panicFree_body)))))))))) (fun _ h => h ▸ hW1306.cells) rfl hE1331 (by kernel_rfl) (env' := [(5, .v (.int .u32 (knownI l))), (6, .v (.slice A_ out.length c_)), (8, .p 0 0), (9, .v (.int .i64 ((i : Nat) : Int))), (17, .v (.slice A ((u.take 32767).length) c)), (18, .v (.int .i64 (((u.take 32767).length : Nat) : Int))), (19, .v (.int .i64 ((k : Nat) : Int))), (36, .v (.bool (decide (k1317 < k1269))))]) (by kernel_rfl) rfl fun a1332 hE1333 => ?_
      clear hE1331
      refine anyC_done (by kernel_rfl) ?_ _
      refine then_normal ?_
      refine cond_of hE1333 (b := decide (k1317 < k1269)) (by kernel_rfl) (fun hc1334 => ?_) (fun hc1334 => ?_)
      ·
        have hf1335 := of_decide_eq_true hc1334
        refine wp_skip ?_
        refine then_normal ?_
        refine wp_block ?_
        refine go_region [0, 1, 2] (by kernel_rfl) ?_
        refine go_runs [0, 1, 2] [] [5, 6, 8, 9, 17, 18, 19] hW1306 hE1333 (env' := [(5, .v (.int .u32 (knownI l))), (6, .v (.slice A_ out.length c_)), (8, .p 0 0), (9, .v (.int .i64 (IntKind.i64.wrap (((i : Nat) : Int) + 1)))), (17, .v (.slice A ((u.take 32767).length) c)), (18, .v (.int .i64 (((u.take 32767).length : Nat) : Int))), (19, .v (.int .i64 ((k : Nat) : Int)))]) (by kernel_rfl) rfl fun a1336 hE1337 => ?_
        clear hE1333
        refine wpOps_nil ?_
        refine block_normal ?_
        refine then_normal ?_
        have hE1338 := EnvOk.pick hE1337 (ks := [5, 6, 8, 9, 17, 18, 19]) (env' := [(5, .v (.int .u32 (knownI l))), (6, .v (.slice A_ out.length c_)), (8, .p 0 0), (9, .v (.int .i64 (IntKind.i64.wrap (((i : Nat) : Int) + 1)))), (17, .v (.slice A ((u.take 32767).length) c)), (18, .v (.int .i64 (((u.take 32767).length : Nat) : Int))), (19, .v (.int .i64 ((k : Nat) : Int)))]) (by kernel_rfl)
        have he1339 : IntKind.i64.wrap (((i : Nat) : Int) + 1) = ((i + 1 : Nat) : Int) := wrap_succ (by omega)
        rw [he1339] at hE1338
        exact ⟨out.length - (i + 1), by omega, (i + 1), rfl, by omega, fun q hq => by rcases Nat.lt_succ_iff_lt_or_eq.1 hq with h_ | h_; exact hlt q h_; rw [h_, getD_of hx1319]; assumption, hE1338, hW1306, (Fr.trans hF1302 hF1305)⟩
      ·
        have hf1340 := of_decide_eq_false hc1334
        refine wp_exit ?_
        refine then_exit ?_
        refine then_exit ?_
        refine block_exit ?_
        refine then_normal ?_
        refine wp_seq ?_
        refine go_seq_drawQ (by kernel_rfl) hW1306 fun w1341 hF1342 hW1343 => ?_
        refine go_runsD [0, 1, 2, 3, 4] [5, 6, 8, 9, 17, 18, 19, 43] 15 (by kernel_rfl) (panicFree_then (panicFree_then (panicFree_block (panicFree_then (panicFree_then (panicFree_block (panicFree_then panicFree_body))))))) (fun _ h => h ▸ hW1343.cells) rfl hE1333 (by kernel_rfl) (env' := [(5, .v (.int .u32 (knownI l))), (6, .v (.slice A_ out.length c_)), (8, .p 0 0), (9, .v (.int .i64 ((i : Nat) : Int))), (17, .v (.slice A ((u.take 32767).length) c)), (18, .v (.int .i64 (((u.take 32767).length : Nat) : Int))), (19, .v (.int .i64 ((k : Nat) : Int))), (43, .v (.bool (decide (k1269 < (knownI l)))))]) (by kernel_rfl) rfl fun a1344 hE1345 => ?_
        clear hE1333
        refine (Bool.eq_false_or_eq_true (decide (k1269 < (knownI l)))).elim (fun hc1346 => ?_) (fun hc1346 => ?_)
        ·
          have hf1347 := of_decide_eq_true hc1346
          have hE1348 := hE1345.cast (env' := [(5, .v (.int .u32 (knownI l))), (6, .v (.slice A_ out.length c_)), (8, .p 0 0), (9, .v (.int .i64 ((i : Nat) : Int))), (17, .v (.slice A ((u.take 32767).length) c)), (18, .v (.int .i64 (((u.take 32767).length : Nat) : Int))), (19, .v (.int .i64 ((k : Nat) : Int))), (43, .v (.bool true))]) (by rw [hc1346])
          clear hE1345
          refine go_runsD [5, 6, 7, 8, 9, 10, 11, 12, 13, 14, 15, 16, 17, 18, 19] [5, 6, 8, 9, 17, 18, 19, 58] 0 (by kernel_rfl) (panicFree_then (panicFree_then (panicFree_block (panicFree_then (panicFree_then (panicFree_block (panicFree_then panicFree_body))))))) (fun _ h => h ▸ hW1343.cells) rfl hE1348 (by kernel_rfl) (env' := [(5, .v (.int .u32 (knownI l))), (6, .v (.slice A_ out.length c_)), (8, .p 0 0), (9, .v (.int .i64 ((i : Nat) : Int))), (17, .v (.slice A ((u.take 32767).length) c)), (18, .v (.int .i64 (((u.take 32767).length : Nat) : Int))), (19, .v (.int .i64 ((k : Nat) : Int))), (58, .v (.bool true))]) (by kernel_rfl) rfl fun a1349 hE1350 => ?_
          clear hE1348
          refine anyC_done (by kernel_rfl) ?_ _
          refine then_normal ?_
          refine cond_true hE1350 (b := true) (by kernel_rfl) rfl ?_
          refine wp_exit ?_
          refine then_exit ?_
          refine block_exit ?_
          refine then_normal ?_
          refine go_region [0, 1] (by kernel_rfl) ?_
          refine go_runs [0, 1] [] [5, 6, 17, 18, 19] hW1343 hE1350 (env' := [(5, .v (.int .u32 (knownI l))), (6, .v (.slice A_ out.length c_)), (17, .v (.slice A ((u.take 32767).length) c)), (18, .v (.int .i64 (((u.take 32767).length : Nat) : Int))), (19, .v (.int .i64 (IntKind.i64.wrap (((k : Nat) : Int) + 1))))]) (by kernel_rfl) rfl fun a1351 hE1352 => ?_
          clear hE1350
          refine wpOps_nil ?_
          refine then_normal ?_
          have hE1353 := EnvOk.pick hE1352 (ks := [5, 6, 17, 18, 19]) (env' := [(5, .v (.int .u32 (knownI l))), (6, .v (.slice A_ out.length c_)), (17, .v (.slice A ((u.take 32767).length) c)), (18, .v (.int .i64 (((u.take 32767).length : Nat) : Int))), (19, .v (.int .i64 (IntKind.i64.wrap (((k : Nat) : Int) + 1))))]) (by kernel_rfl)
          have hE1354 : EnvOk 85 [] _ _ := hE1353.cutTb 0 (by kernel_rfl)
          have hW1355 : WOk _ _ _ [] _ := hW1343.cutTb 0
          have hF1356 : Fr _ _ _ _ [] _ := Fr.cutTb w1341 [⟨b1282, 0, [.int .u32 k1269, .slice A1272 s1270.length c1273], true⟩] [⟨A_, c_, 61, 2, out.length, css.flatten⟩] 0
          have hE1357 := EnvOk.pick hE1354 (ks := [5, 6, 17, 18, 19]) (env' := [(5, .v (.int .u32 (knownI l))), (6, .v (.slice A_ out.length c_)), (17, .v (.slice A ((u.take 32767).length) c)), (18, .v (.int .i64 (((u.take 32767).length : Nat) : Int))), (19, .v (.int .i64 (IntKind.i64.wrap (((k : Nat) : Int) + 1))))]) (by kernel_rfl)
          have he1358 : IntKind.i64.wrap (((k : Nat) : Int) + 1) = ((k + 1 : Nat) : Int) := wrap_succ (by omega)
          rw [he1358] at hE1357
          exact ⟨(u.take 32767).length - (k + 1), by omega, k + 1, A_, c_, out, css, rfl, by omega, (hT.move (Fr.trans (Fr.trans (Fr.trans (Fr.trans (Fr.trans hF1287 hF1291) hF1302) hF1305) hF1342) hF1356).step immM (Fr.trans (Fr.trans (Fr.trans (Fr.trans (Fr.trans hF1287 hF1291) hF1302) hF1305) hF1342) hF1356).to'), by rw [foldl_take_succ he1271, ← hout]; exact (ins_low (by assumption)).symm, by omega, hE1357, hW1355, (Fr.trans (Fr.trans (Fr.trans (Fr.trans (Fr.trans (Fr.trans hF1258 hF1287) hF1291) hF1302) hF1305) hF1342) hF1356)⟩
        ·
          have hf1359 := of_decide_eq_false hc1346
          have hE1360 := hE1345.cast (env' := [(5, .v (.int .u32 (knownI l))), (6, .v (.slice A_ out.length c_)), (8, .p 0 0), (9, .v (.int .i64 ((i : Nat) : Int))), (17, .v (.slice A ((u.take 32767).length) c)), (18, .v (.int .i64 (((u.take 32767).length : Nat) : Int))), (19, .v (.int .i64 ((k : Nat) : Int))), (43, .v (.bool false))]) (by rw [hc1346])
          clear hE1345
          refine go_runsD [5, 6, 7, 8, 9] [5, 6, 8, 9, 17, 18, 19, 43, 48] 10 (by kernel_rfl) (panicFree_then (panicFree_then (panicFree_block (panicFree_then (panicFree_then (panicFree_block (panicFree_then panicFree_body))))))) (fun _ h => h ▸ hW1343.cells) rfl hE1360 (by kernel_rfl) (env' := [(5, .v (.int .u32 (knownI l))), (6, .v (.slice A_ out.length c_)), (8, .p 0 0), (9, .v (.int .i64 ((i : Nat) : Int))), (17, .v (.slice A ((u.take 32767).length) c)), (18, .v (.int .i64 (((u.take 32767).length : Nat) : Int))), (19, .v (.int .i64 ((k : Nat) : Int))), (43, .v (.bool false)), (48, .v (.bool (decide (((i : Nat) : Int) < ((out.length : Nat) : Int)))))]) (by kernel_rfl) rfl fun a1361 hE1362 => ?_
          clear hE1360
          have hc1363 : (decide (((i : Nat) : Int) < ((out.length : Nat) : Int))) = true := hc1309
          have hE1364 := hE1362.cast (env' := [(5, .v (.int .u32 (knownI l))), (6, .v (.slice A_ out.length c_)), (8, .p 0 0), (9, .v (.int .i64 ((i : Nat) : Int))), (17, .v (.slice A ((u.take 32767).length) c)), (18, .v (.int .i64 (((u.take 32767).length : Nat) : Int))), (19, .v (.int .i64 ((k : Nat) : Int))), (43, .v (.bool false)), (48, .v (.bool true))]) (by rw [hc1363])
          clear hE1362
          refine go_runsD [10, 11, 15, 16] [5, 6, 8, 9, 17, 18, 19, 43, 48, 49, 50, 55] 6 (by kernel_rfl) (panicFree_then (panicFree_then (panicFree_block (panicFree_then (panicFree_then (panicFree_block (panicFree_then panicFree_body))))))) (fun _ h => h ▸ hW1343.cells) rfl hE1364 (by kernel_rfl) (env' := [(5, .v (.int .u32 (knownI l))), (6, .v (.slice A_ out.length c_)), (8, .p 0 0), (9, .v (.int .i64 ((i : Nat) : Int))), (17, .v (.slice A ((u.take 32767).length) c)), (18, .v (.int .i64 (((u.take 32767).length : Nat) : Int))), (19, .v (.int .i64 ((k : Nat) : Int))), (43, .v (.bool false)), (48, .v (.bool true)), (49, .v (.slice A_ out.length c_)), (50, .v (.int .i64 ((i : Nat) : Int))), (55, .v (.int .u32 k1269))]) (by kernel_rfl) rfl fun a1365 hE1366 => ?_
          clear hE1364
          obtain ⟨g1367, hA1368⟩ := own_addr (hW1343.own 0 _ rfl) (show 0 < out.length by omega)
          obtain ⟨⟨k1370, s1371⟩, hx1372⟩ : ∃ x, out[i]? = some x := ⟨_, List.getElem?_eq_getElem (by omega)⟩
          obtain ⟨A1373, c1374, hc1375, hO1376, h1377, h1378⟩ := TagsE.get2 (hT.move (Fr.trans (Fr.trans (Fr.trans (Fr.trans hF1287 hF1291) hF1302) hF1305) hF1342).step immM (Fr.trans (Fr.trans (Fr.trans (Fr.trans hF1287 hF1291) hF1302) hF1305) hF1342).to') hx1372
          have hat1369 := own_at (hW1343.own 0 _ rfl) hA1368 (flat_cells (hT.move (Fr.trans (Fr.trans (Fr.trans (Fr.trans hF1287 hF1291) hF1302) hF1305) hF1342).step immM (Fr.trans (Fr.trans (Fr.trans (Fr.trans hF1287 hF1291) hF1302) hF1305) hF1342).to').two hc1375)
          refine takeC_index hE1366 (i := 12) (t := 24) (A := A_) (m := out.length) (q := ((i : Nat) : Int)) (d := 51) (by kernel_rfl) (e := 61) (size := 2) (bytes := 32) (by kernel_rfl) (b := g1367) (o := 0) (j := i) hA1368 (rfl) (by omega) (by kernel_rfl) (by kernel_rfl) (panicFree_then (panicFree_then (panicFree_block (panicFree_then (panicFree_then (panicFree_block (panicFree_then panicFree_body))))))) rfl fun a1379 hE1380 => ?_
          clear hE1366
          refine go_runsD [13] [5, 6, 8, 9, 17, 18, 19, 43, 48, 52, 55] 4 (by kernel_rfl) (panicFree_then (panicFree_then (panicFree_block (panicFree_then (panicFree_then (panicFree_block (panicFree_then panicFree_body))))))) (fun _ h => h ▸ hW1343.cells) rfl hE1380 (by kernel_rfl) (env' := [(5, .v (.int .u32 (knownI l))), (6, .v (.slice A_ out.length c_)), (8, .p 0 0), (9, .v (.int .i64 ((i : Nat) : Int))), (17, .v (.slice A ((u.take 32767).length) c)), (18, .v (.int .i64 (((u.take 32767).length : Nat) : Int))), (19, .v (.int .i64 ((k : Nat) : Int))), (43, .v (.bool false)), (48, .v (.bool true)), (52, .v (.pointer (some ⟨g1367, 0 + i * 2, none⟩))), (55, .v (.int .u32 k1269))]) (by kernel_rfl) rfl fun a1381 hE1382 => ?_
          clear hE1380
          refine takeC_load hE1382 (i := 14) (t := 59) (b := g1367) (o := 0 + i * 2) (d := 53) (by kernel_rfl) (cs := [.int .u32 k1370]) (v := .int .u32 k1370) (by kernel_rfl) (fun w' h' => h' ▸ (At.drop hat1369 0 1)) (by kernel_rfl) (by kernel_rfl) (panicFree_then (panicFree_then (panicFree_block (panicFree_then (panicFree_then (panicFree_block (panicFree_then panicFree_body))))))) rfl fun a1383 hE1384 => ?_
          clear hE1382
          refine go_runsD [17, 18, 19] [5, 6, 8, 9, 17, 18, 19, 58] 0 (by kernel_rfl) (panicFree_then (panicFree_then (panicFree_block (panicFree_then (panicFree_then (panicFree_block (panicFree_then panicFree_body))))))) (fun _ h => h ▸ hW1343.cells) rfl hE1384 (by kernel_rfl) (env' := [(5, .v (.int .u32 (knownI l))), (6, .v (.slice A_ out.length c_)), (8, .p 0 0), (9, .v (.int .i64 ((i : Nat) : Int))), (17, .v (.slice A ((u.take 32767).length) c)), (18, .v (.int .i64 (((u.take 32767).length : Nat) : Int))), (19, .v (.int .i64 ((k : Nat) : Int))), (58, .v (.bool (k1370 == k1269)))]) (by kernel_rfl) rfl fun a1385 hE1386 => ?_
          clear hE1384
          refine anyC_done (by kernel_rfl) ?_ _
          refine then_normal ?_
          refine cond_of hE1386 (b := k1370 == k1269) (by kernel_rfl) (fun hc1387 => ?_) (fun hc1387 => ?_)
          ·
            have hf1388 : k1370 = k1269 := by simpa using hc1387
            refine wp_exit ?_
            refine then_exit ?_
            refine block_exit ?_
            refine then_normal ?_
            refine go_region [0, 1] (by kernel_rfl) ?_
            refine go_runs [0, 1] [] [5, 6, 17, 18, 19] hW1343 hE1386 (env' := [(5, .v (.int .u32 (knownI l))), (6, .v (.slice A_ out.length c_)), (17, .v (.slice A ((u.take 32767).length) c)), (18, .v (.int .i64 (((u.take 32767).length : Nat) : Int))), (19, .v (.int .i64 (IntKind.i64.wrap (((k : Nat) : Int) + 1))))]) (by kernel_rfl) rfl fun a1389 hE1390 => ?_
            clear hE1386
            refine wpOps_nil ?_
            refine then_normal ?_
            have hE1391 := EnvOk.pick hE1390 (ks := [5, 6, 17, 18, 19]) (env' := [(5, .v (.int .u32 (knownI l))), (6, .v (.slice A_ out.length c_)), (17, .v (.slice A ((u.take 32767).length) c)), (18, .v (.int .i64 (((u.take 32767).length : Nat) : Int))), (19, .v (.int .i64 (IntKind.i64.wrap (((k : Nat) : Int) + 1))))]) (by kernel_rfl)
            have hE1392 : EnvOk 85 [] _ _ := hE1391.cutTb 0 (by kernel_rfl)
            have hW1393 : WOk _ _ _ [] _ := hW1343.cutTb 0
            have hF1394 : Fr _ _ _ _ [] _ := Fr.cutTb w1341 [⟨b1282, 0, [.int .u32 k1269, .slice A1272 s1270.length c1273], true⟩] [⟨A_, c_, 61, 2, out.length, css.flatten⟩] 0
            have hE1395 := EnvOk.pick hE1392 (ks := [5, 6, 17, 18, 19]) (env' := [(5, .v (.int .u32 (knownI l))), (6, .v (.slice A_ out.length c_)), (17, .v (.slice A ((u.take 32767).length) c)), (18, .v (.int .i64 (((u.take 32767).length : Nat) : Int))), (19, .v (.int .i64 (IntKind.i64.wrap (((k : Nat) : Int) + 1))))]) (by kernel_rfl)
            have he1396 : IntKind.i64.wrap (((k : Nat) : Int) + 1) = ((k + 1 : Nat) : Int) := wrap_succ (by omega)
            rw [he1396] at hE1395
            exact ⟨(u.take 32767).length - (k + 1), by omega, k + 1, A_, c_, out, css, rfl, by omega, (hT.move (Fr.trans (Fr.trans (Fr.trans (Fr.trans (Fr.trans hF1287 hF1291) hF1302) hF1305) hF1342) hF1394).step immM (Fr.trans (Fr.trans (Fr.trans (Fr.trans (Fr.trans hF1287 hF1291) hF1302) hF1305) hF1342) hF1394).to'), by rw [foldl_take_succ he1271, ← hout]; exact (ins_same (tagPos_eq hi hlt (fun _ => by rw [getD_fst hx1372]; omega)) (by omega) (by rw [getD_fst hx1372]; omega)).symm, by omega, hE1395, hW1393, (Fr.trans (Fr.trans (Fr.trans (Fr.trans (Fr.trans (Fr.trans hF1258 hF1287) hF1291) hF1302) hF1305) hF1342) hF1394)⟩
          ·
            have hf1397 : k1370 ≠ k1269 := by simpa using hc1387
            refine wp_skip ?_
            refine then_normal ?_
            refine go_seq_region [0, 1, 2, 3, 4] (by kernel_rfl) ?_
            refine go_runs [0, 1] [2, 3, 4] [5, 8, 9, 17, 18, 19, 59, 60] hW1343 hE1386 (env' := [(5, .v (.int .u32 (knownI l))), (8, .p 0 0), (9, .v (.int .i64 ((i : Nat) : Int))), (17, .v (.slice A ((u.take 32767).length) c)), (18, .v (.int .i64 (((u.take 32767).length : Nat) : Int))), (19, .v (.int .i64 ((k : Nat) : Int))), (59, .v (.slice A_ out.length c_)), (60, .v (.agg #[.int .u32 0, .slice none 0 0]))]) (by kernel_rfl) rfl fun a1398 hE1399 => ?_
            clear hE1386
            refine wpOps_push hW1343 hE1399 (k := 0) (e := 61) (size := 2) (len := 1) (cs := [.int .u32 0, .slice none 0 0]) (d1 := 61) (d := 62) (by kernel_rfl) (t := 24) (bytes := 32) (by kernel_rfl) (fun _ => by kernel_rfl) rfl (by kernel_rfl) (by omega) fun A1400 c1401 a1402 w1403 hF1404 hW1405 ⟨_, hE1406⟩ => ?_
            clear hE1399
            refine go_runs [4] [] [5, 6, 8, 9, 17, 18, 19] hW1405 hE1406 (env' := [(5, .v (.int .u32 (knownI l))), (6, .v (.slice A1400 (out.length + 1) c1401)), (8, .p 0 0), (9, .v (.int .i64 ((i : Nat) : Int))), (17, .v (.slice A ((u.take 32767).length) c)), (18, .v (.int .i64 (((u.take 32767).length : Nat) : Int))), (19, .v (.int .i64 ((k : Nat) : Int)))]) (by kernel_rfl) rfl fun a1407 hE1408 => ?_
            clear hE1406
            refine wpOps_nil ?_
            refine then_normal ?_
            refine wp_seq ?_
            refine go_seq_region [0, 1, 2, 3] (by kernel_rfl) ?_
            refine go_runs [0, 1, 2, 3] [] [5, 6, 8, 9, 10, 17, 18, 19] hW1405 hE1408 (env' := [(5, .v (.int .u32 (knownI l))), (6, .v (.slice A1400 (out.length + 1) c1401)), (8, .p 0 0), (9, .v (.int .i64 ((i : Nat) : Int))), (10, .v (.int .i64 (IntKind.i64.wrap (((out.length + 1 : Nat) : Int) - 1)))), (17, .v (.slice A ((u.take 32767).length) c)), (18, .v (.int .i64 (((u.take 32767).length : Nat) : Int))), (19, .v (.int .i64 ((k : Nat) : Int)))]) (by kernel_rfl) rfl fun a1409 hE1410 => ?_
            clear hE1408
            refine wpOps_nil ?_
            refine then_normal ?_
            refine wp_block ?_
            have hcl0 := (hT.move (Fr.trans (Fr.trans (Fr.trans (Fr.trans (Fr.trans hF1287 hF1291) hF1302) hF1305) hF1342) hF1404).step immM (Fr.trans (Fr.trans (Fr.trans (Fr.trans (Fr.trans hF1287 hF1291) hF1302) hF1305) hF1342) hF1404).to').len
            have er1411 : (⟨A1400, c1401, 61, 2, out.length + 1, css.flatten ++ [.int .u32 0, .slice none 0 0]⟩ : Rw) = ⟨A1400, c1401, 61, 2, out.length + 1, (rowAt css [.int .u32 0, .slice none 0 0] out.length).flatten⟩ := by rw [push_row hcl0]
            have hW1412 : WOk _ _ _ _ [⟨A1400, c1401, 61, 2, out.length + 1, (rowAt css [.int .u32 0, .slice none 0 0] out.length).flatten⟩] := hW1405.castR (congrArg (fun r_ => List.set [⟨A1400, c1401, 61, 2, out.length + 1, css.flatten ++ [.int .u32 0, .slice none 0 0]⟩] 0 r_) er1411)
            have hF1414 : Fr w1403 [⟨b1282, 0, [.int .u32 k1269, .slice A1272 s1270.length c1273], true⟩] [⟨A1400, c1401, 61, 2, out.length + 1, css.flatten ++ [.int .u32 0, .slice none 0 0]⟩] w1403 [⟨b1282, 0, [.int .u32 k1269, .slice A1272 s1270.length c1273], true⟩] [⟨A1400, c1401, 61, 2, out.length + 1, (rowAt css [.int .u32 0, .slice none 0 0] out.length).flatten⟩] := Fr.castR (Fr.refl _ _ _) (congrArg (fun r_ => List.set [⟨A1400, c1401, 61, 2, out.length + 1, css.flatten ++ [.int .u32 0, .slice none 0 0]⟩] 0 r_) er1411)
            clear hW1405
            have hE1422 := EnvOk.pick hE1410 (ks := [5, 6, 8, 9, 10, 17, 18, 19]) (env' := [(5, .v (.int .u32 (knownI l))), (6, .v (.slice A1400 (out.length + 1) c1401)), (8, .p 0 0), (9, .v (.int .i64 ((i : Nat) : Int))), (10, .v (.int .i64 (IntKind.i64.wrap (((out.length + 1 : Nat) : Int) - 1)))), (17, .v (.slice A ((u.take 32767).length) c)), (18, .v (.int .i64 (((u.take 32767).length : Nat) : Int))), (19, .v (.int .i64 ((k : Nat) : Int)))]) (by kernel_rfl)
            have he1423 : IntKind.i64.wrap (((out.length + 1 : Nat) : Int) - 1) = ((out.length : Nat) : Int) := by rw [wrap_i64 (by omega) (by omega)]; omega
            rw [he1423] at hE1422
            refine wp_loop_ghost (fun n_ a_ w_ => ∃ (j : Nat), n_ = j ∧ (i ≤ j) ∧ (j ≤ out.length) ∧ EnvOk 85 [⟨b1282, 0, [.int .u32 k1269, .slice A1272 s1270.length c1273], true⟩] [(5, .v (.int .u32 (knownI l))), (6, .v (.slice A1400 (out.length + 1) c1401)), (8, .p 0 0), (9, .v (.int .i64 ((i : Nat) : Int))), (10, .v (.int .i64 ((j : Nat) : Int))), (17, .v (.slice A ((u.take 32767).length) c)), (18, .v (.int .i64 (((u.take 32767).length : Nat) : Int))), (19, .v (.int .i64 ((k : Nat) : Int)))] a_ ∧ WOk w Nil w_ [⟨b1282, 0, [.int .u32 k1269, .slice A1272 s1270.length c1273], true⟩] [⟨A1400, c1401, 61, 2, out.length + 1, (rowAt css [.int .u32 0, .slice none 0 0] j).flatten⟩] ∧ Fr w1403 [⟨b1282, 0, [.int .u32 k1269, .slice A1272 s1270.length c1273], true⟩] [⟨A1400, c1401, 61, 2, out.length + 1, (rowAt css [.int .u32 0, .slice none 0 0] out.length).flatten⟩] w_ [⟨b1282, 0, [.int .u32 k1269, .slice A1272 s1270.length c1273], true⟩] [⟨A1400, c1401, 61, 2, out.length + 1, (rowAt css [.int .u32 0, .slice none 0 0] j).flatten⟩]) (out.length) ⟨out.length, rfl, hi, Nat.le_refl _, hE1422, hW1412, Fr.refl _ _ _⟩ ?_
            clear hE1422 hE1410 hW1412
            rintro n1415 a1416 w1417 ⟨j, hn1420, hij, hjl, hE1418, hW1419, hF1421⟩
            refine wp_seq ?_
            refine go_seq_region [0, 1, 2] (by kernel_rfl) ?_
            refine go_runs [0, 1, 2] [] [5, 6, 8, 9, 10, 17, 18, 19, 68] hW1419 hE1418 (env' := [(5, .v (.int .u32 (knownI l))), (6, .v (.slice A1400 (out.length + 1) c1401)), (8, .p 0 0), (9, .v (.int .i64 ((i : Nat) : Int))), (10, .v (.int .i64 ((j : Nat) : Int))), (17, .v (.slice A ((u.take 32767).length) c)), (18, .v (.int .i64 (((u.take 32767).length : Nat) : Int))), (19, .v (.int .i64 ((k : Nat) : Int))), (68, .v (.bool (decide (((j : Nat) : Int) > ((i : Nat) : Int)))))]) (by kernel_rfl) rfl fun a1424 hE1425 => ?_
            clear hE1418
            refine wpOps_nil ?_
            refine then_normal ?_
            refine cond_of hE1425 (b := decide (((j : Nat) : Int) > ((i : Nat) : Int))) (by kernel_rfl) (fun hc1426 => ?_) (fun hc1426 => ?_)
            ·
              have hf1427 := of_decide_eq_true hc1426
              refine wp_skip ?_
              refine then_normal ?_
              refine wp_seq ?_
              refine wp_block ?_
              refine go_region [0, 1, 2, 3, 4, 5, 6, 7, 8] (by kernel_rfl) ?_
              refine go_runs [0, 1, 2, 3, 4] [5, 6, 7, 8] [5, 6, 8, 9, 10, 17, 18, 19, 71, 72, 73, 75] hW1419 hE1425 (env' := [(5, .v (.int .u32 (knownI l))), (6, .v (.slice A1400 (out.length + 1) c1401)), (8, .p 0 0), (9, .v (.int .i64 ((i : Nat) : Int))), (10, .v (.int .i64 ((j : Nat) : Int))), (17, .v (.slice A ((u.take 32767).length) c)), (18, .v (.int .i64 (((u.take 32767).length : Nat) : Int))), (19, .v (.int .i64 ((k : Nat) : Int))), (71, .v (.slice A1400 (out.length + 1) c1401)), (72, .v (.int .i64 ((j : Nat) : Int))), (73, .v (.slice A1400 (out.length + 1) c1401)), (75, .v (.int .i64 (IntKind.i64.wrap (((j : Nat) : Int) - 1))))]) (by kernel_rfl) rfl fun a1428 hE1429 => ?_
              clear hE1425
              obtain ⟨g1430, hA1431⟩ := own_addr (hW1419.own 0 _ rfl) (show 0 < out.length + 1 by omega)
              obtain ⟨⟨k1433, s1434⟩, hx1435⟩ : ∃ x, out[j - 1]? = some x := ⟨_, List.getElem?_eq_getElem (by omega)⟩
              obtain ⟨A1436, c1437, hc1438, hO1439, h1440, h1441⟩ := TagsE.get2 (hT.move (Fr.trans (Fr.trans (Fr.trans (Fr.trans (Fr.trans (Fr.trans (Fr.trans hF1287 hF1291) hF1302) hF1305) hF1342) hF1404) hF1414) hF1421).step immM (Fr.trans (Fr.trans (Fr.trans (Fr.trans (Fr.trans (Fr.trans (Fr.trans hF1287 hF1291) hF1302) hF1305) hF1342) hF1404) hF1414) hF1421).to') hx1435
              have hat1432 := own_at (hW1419.own 0 _ rfl) hA1431 (flat_cells (rowAt_two (hT.move (Fr.trans (Fr.trans (Fr.trans (Fr.trans (Fr.trans (Fr.trans (Fr.trans hF1287 hF1291) hF1302) hF1305) hF1342) hF1404) hF1414) hF1421).step immM (Fr.trans (Fr.trans (Fr.trans (Fr.trans (Fr.trans (Fr.trans (Fr.trans hF1287 hF1291) hF1302) hF1305) hF1342) hF1404) hF1414) hF1421).to').two rfl j) (rowAt_get (show j - 1 < j by omega) hc1438))
              refine of_op (wpOp_index hE1429 (t := 24) (A := A1400) (m := (out.length + 1)) (q := (IntKind.i64.wrap (((j : Nat) : Int) - 1))) (d := 76) (by kernel_rfl) (e := 61) (size := 2) (bytes := 32) (by kernel_rfl) (b := g1430) (o := 0) (j := (j - 1)) hA1431 (by rw [wrap_i64 (by omega) (by omega)]; omega) (by omega) fun a1442 hE1443 => ?_)
              clear hE1429
              refine of_op (wpOp_load hE1443 (t := 61) (b := g1430) (o := 0 + (j - 1) * 2) (d := 77) (by kernel_rfl) (cs := [.int .u32 k1433, .slice A1436 s1434.length c1437]) (v := .agg #[.int .u32 k1433, .slice A1436 s1434.length c1437]) (by kernel_rfl) hat1432 fun a1444 hE1445 => ?_)
              clear hE1443
              obtain ⟨g1446, hA1447⟩ := own_addr (hW1419.own 0 _ rfl) (show 0 < out.length + 1 by omega)
              refine of_op (wpOp_index hE1445 (t := 24) (A := A1400) (m := (out.length + 1)) (q := ((j : Nat) : Int)) (d := 78) (by kernel_rfl) (e := 61) (size := 2) (bytes := 32) (by kernel_rfl) (b := g1446) (o := 0) (j := j) hA1447 (rfl) (by omega) fun a1449 hE1450 => ?_)
              clear hE1445
              refine of_op (wpOp_storeR hW1419 hE1450 (k := 0) (g := g1446) (o := j * 2) (c := c1401) (m := (out.length + 1)) (size := 2) (e := 61) (A := A1400) (xs := ((rowAt css [.int .u32 0, .slice none 0 0] j).flatten)) (vs := [.int .u32 k1433, .slice A1436 s1434.length c1437]) (by kernel_rfl) rfl hA1447 (by simp only [List.length_cons, List.length_nil]; omega) fun w1451 hF1452 hW1453 hE1454 => ?_)
              clear hE1450 hW1419
              refine wpOps_nil ?_
              refine block_normal ?_
              refine then_normal ?_
              refine go_region [0, 1, 2] (by kernel_rfl) ?_
              refine go_runs [0, 1, 2] [] [5, 6, 8, 9, 10, 17, 18, 19] hW1453 hE1454 (env' := [(5, .v (.int .u32 (knownI l))), (6, .v (.slice A1400 (out.length + 1) c1401)), (8, .p 0 0), (9, .v (.int .i64 ((i : Nat) : Int))), (10, .v (.int .i64 (IntKind.i64.wrap (((j : Nat) : Int) - 1)))), (17, .v (.slice A ((u.take 32767).length) c)), (18, .v (.int .i64 (((u.take 32767).length : Nat) : Int))), (19, .v (.int .i64 ((k : Nat) : Int)))]) (by kernel_rfl) rfl fun a1455 hE1456 => ?_
              clear hE1454
              refine wpOps_nil ?_
              refine then_normal ?_
              have er1457 : (⟨A1400, c1401, 61, 2, out.length + 1, splice ((rowAt css [.int .u32 0, .slice none 0 0] j).flatten) (j * 2) [.int .u32 k1433, .slice A1436 s1434.length c1437]⟩ : Rw) = ⟨A1400, c1401, 61, 2, out.length + 1, (rowAt css [.int .u32 0, .slice none 0 0] (j - 1)).flatten⟩ := by rw [shift_row (hT.move (Fr.trans (Fr.trans (Fr.trans (Fr.trans (Fr.trans (Fr.trans (Fr.trans (Fr.trans hF1287 hF1291) hF1302) hF1305) hF1342) hF1404) hF1414) hF1421) hF1452).step immM (Fr.trans (Fr.trans (Fr.trans (Fr.trans (Fr.trans (Fr.trans (Fr.trans (Fr.trans hF1287 hF1291) hF1302) hF1305) hF1342) hF1404) hF1414) hF1421) hF1452).to').two rfl (by omega) (by omega) hc1438]
              have hW1458 : WOk _ _ _ _ [⟨A1400, c1401, 61, 2, out.length + 1, (rowAt css [.int .u32 0, .slice none 0 0] (j - 1)).flatten⟩] := hW1453.castR (congrArg (fun r_ => List.set [⟨A1400, c1401, 61, 2, out.length + 1, splice ((rowAt css [.int .u32 0, .slice none 0 0] j).flatten) (j * 2) [.int .u32 k1433, .slice A1436 s1434.length c1437]⟩] 0 r_) er1457)
              have hF1460 : Fr w1451 [⟨b1282, 0, [.int .u32 k1269, .slice A1272 s1270.length c1273], true⟩] [⟨A1400, c1401, 61, 2, out.length + 1, splice ((rowAt css [.int .u32 0, .slice none 0 0] j).flatten) (j * 2) [.int .u32 k1433, .slice A1436 s1434.length c1437]⟩] w1451 [⟨b1282, 0, [.int .u32 k1269, .slice A1272 s1270.length c1273], true⟩] [⟨A1400, c1401, 61, 2, out.length + 1, (rowAt css [.int .u32 0, .slice none 0 0] (j - 1)).flatten⟩] := Fr.castR (Fr.refl _ _ _) (congrArg (fun r_ => List.set [⟨A1400, c1401, 61, 2, out.length + 1, splice ((rowAt css [.int .u32 0, .slice none 0 0] j).flatten) (j * 2) [.int .u32 k1433, .slice A1436 s1434.length c1437]⟩] 0 r_) er1457)
              clear hW1453
              have hE1461 := EnvOk.pick hE1456 (ks := [5, 6, 8, 9, 10, 17, 18, 19]) (env' := [(5, .v (.int .u32 (knownI l))), (6, .v (.slice A1400 (out.length + 1) c1401)), (8, .p 0 0), (9, .v (.int .i64 ((i : Nat) : Int))), (10, .v (.int .i64 (IntKind.i64.wrap (((j : Nat) : Int) - 1)))), (17, .v (.slice A ((u.take 32767).length) c)), (18, .v (.int .i64 (((u.take 32767).length : Nat) : Int))), (19, .v (.int .i64 ((k : Nat) : Int)))]) (by kernel_rfl)
              have he1462 : IntKind.i64.wrap (((j : Nat) : Int) - 1) = ((j - 1 : Nat) : Int) := by rw [wrap_i64 (by omega) (by omega)]; omega
              rw [he1462] at hE1461
              exact ⟨(j - 1), by omega, (j - 1), rfl, by omega, by omega, hE1461, hW1458, (Fr.trans (Fr.trans hF1421 hF1452) hF1460)⟩
            ·
              have hf1463 := of_decide_eq_false hc1426
              refine wp_exit ?_
              refine then_exit ?_
              refine then_exit ?_
              refine block_exit ?_
              refine then_normal ?_
              refine go_region [0, 1, 2, 3, 4] (by kernel_rfl) ?_
              refine go_runs [0, 1, 2] [3, 4] [5, 6, 17, 18, 19, 79, 80, 81] hW1419 hE1425 (env' := [(5, .v (.int .u32 (knownI l))), (6, .v (.slice A1400 (out.length + 1) c1401)), (17, .v (.slice A ((u.take 32767).length) c)), (18, .v (.int .i64 (((u.take 32767).length : Nat) : Int))), (19, .v (.int .i64 ((k : Nat) : Int))), (79, .v (.slice A1400 (out.length + 1) c1401)), (80, .v (.int .i64 ((i : Nat) : Int))), (81, .v (.agg #[.int .u32 k1269, .slice A1272 s1270.length c1273]))]) (by kernel_rfl) rfl fun a1464 hE1465 => ?_
              clear hE1425
              have hji : j = i := by omega
              have er1469 : (⟨A1400, c1401, 61, 2, out.length + 1, (rowAt css [.int .u32 0, .slice none 0 0] j).flatten⟩ : Rw) = ⟨A1400, c1401, 61, 2, out.length + 1, (rowAt css [.int .u32 0, .slice none 0 0] i).flatten⟩ := by rw [hji]
              have hW1470 : WOk _ _ _ _ [⟨A1400, c1401, 61, 2, out.length + 1, (rowAt css [.int .u32 0, .slice none 0 0] i).flatten⟩] := hW1419.castR (congrArg (fun r_ => List.set [⟨A1400, c1401, 61, 2, out.length + 1, (rowAt css [.int .u32 0, .slice none 0 0] j).flatten⟩] 0 r_) er1469)
              have hF1472 : Fr w1417 [⟨b1282, 0, [.int .u32 k1269, .slice A1272 s1270.length c1273], true⟩] [⟨A1400, c1401, 61, 2, out.length + 1, (rowAt css [.int .u32 0, .slice none 0 0] j).flatten⟩] w1417 [⟨b1282, 0, [.int .u32 k1269, .slice A1272 s1270.length c1273], true⟩] [⟨A1400, c1401, 61, 2, out.length + 1, (rowAt css [.int .u32 0, .slice none 0 0] i).flatten⟩] := Fr.castR (Fr.refl _ _ _) (congrArg (fun r_ => List.set [⟨A1400, c1401, 61, 2, out.length + 1, (rowAt css [.int .u32 0, .slice none 0 0] j).flatten⟩] 0 r_) er1469)
              clear hW1419
              obtain ⟨g1466, hA1467⟩ := own_addr (hW1470.own 0 _ rfl) (show 0 < out.length + 1 by omega)
              refine of_op (wpOp_index hE1465 (t := 24) (A := A1400) (m := (out.length + 1)) (q := ((i : Nat) : Int)) (d := 82) (by kernel_rfl) (e := 61) (size := 2) (bytes := 32) (by kernel_rfl) (b := g1466) (o := 0) (j := i) hA1467 (rfl) (by omega) fun a1473 hE1474 => ?_)
              clear hE1465
              refine of_op (wpOp_storeR hW1470 hE1474 (k := 0) (g := g1466) (o := i * 2) (c := c1401) (m := (out.length + 1)) (size := 2) (e := 61) (A := A1400) (xs := ((rowAt css [.int .u32 0, .slice none 0 0] i).flatten)) (vs := [.int .u32 k1269, .slice A1272 s1270.length c1273]) (by kernel_rfl) rfl hA1467 (by simp only [List.length_cons, List.length_nil]; omega) fun w1475 hF1476 hW1477 hE1478 => ?_)
              clear hE1474 hW1470
              refine wpOps_nil ?_
              refine block_normal ?_
              refine then_normal ?_
              refine go_region [0, 1] (by kernel_rfl) ?_
              refine go_runs [0, 1] [] [5, 6, 17, 18, 19] hW1477 hE1478 (env' := [(5, .v (.int .u32 (knownI l))), (6, .v (.slice A1400 (out.length + 1) c1401)), (17, .v (.slice A ((u.take 32767).length) c)), (18, .v (.int .i64 (((u.take 32767).length : Nat) : Int))), (19, .v (.int .i64 (IntKind.i64.wrap (((k : Nat) : Int) + 1))))]) (by kernel_rfl) rfl fun a1479 hE1480 => ?_
              clear hE1478
              refine wpOps_nil ?_
              refine then_normal ?_
              have hE1481 := EnvOk.pick hE1480 (ks := [5, 6, 17, 18, 19]) (env' := [(5, .v (.int .u32 (knownI l))), (6, .v (.slice A1400 (out.length + 1) c1401)), (17, .v (.slice A ((u.take 32767).length) c)), (18, .v (.int .i64 (((u.take 32767).length : Nat) : Int))), (19, .v (.int .i64 (IntKind.i64.wrap (((k : Nat) : Int) + 1))))]) (by kernel_rfl)
              have hE1482 : EnvOk 85 [] _ _ := hE1481.cutTb 0 (by kernel_rfl)
              have hW1483 : WOk _ _ _ [] _ := hW1477.cutTb 0
              have hF1484 : Fr _ _ _ _ [] _ := Fr.cutTb w1475 [⟨b1282, 0, [.int .u32 k1269, .slice A1272 s1270.length c1273], true⟩] [⟨A1400, c1401, 61, 2, out.length + 1, splice ((rowAt css [.int .u32 0, .slice none 0 0] i).flatten) (i * 2) [.int .u32 k1269, .slice A1272 s1270.length c1273]⟩] 0
              have hcl := (hT.move (Fr.trans (Fr.trans (Fr.trans (Fr.trans (Fr.trans (Fr.trans (Fr.trans (Fr.trans (Fr.trans (Fr.trans hF1287 hF1291) hF1302) hF1305) hF1342) hF1404) hF1414) hF1421) hF1472) hF1476) hF1484).step immM (Fr.trans (Fr.trans (Fr.trans (Fr.trans (Fr.trans (Fr.trans (Fr.trans (Fr.trans (Fr.trans (Fr.trans hF1287 hF1291) hF1302) hF1305) hF1342) hF1404) hF1414) hF1421) hF1472) hF1476) hF1484).to').len
              have er1485 : (⟨A1400, c1401, 61, 2, out.length + 1, splice ((rowAt css [.int .u32 0, .slice none 0 0] i).flatten) (i * 2) [.int .u32 k1269, .slice A1272 s1270.length c1273]⟩ : Rw) = ⟨A1400, c1401, 61, 2, (out.take i ++ (k1269, s1270) :: out.drop i).length, (css.take i ++ [.int .u32 k1269, .slice A1272 s1270.length c1273] :: css.drop i).flatten⟩ := by rw [place_row (hT.move (Fr.trans (Fr.trans (Fr.trans (Fr.trans (Fr.trans (Fr.trans (Fr.trans (Fr.trans (Fr.trans (Fr.trans hF1287 hF1291) hF1302) hF1305) hF1342) hF1404) hF1414) hF1421) hF1472) hF1476) hF1484).step immM (Fr.trans (Fr.trans (Fr.trans (Fr.trans (Fr.trans (Fr.trans (Fr.trans (Fr.trans (Fr.trans (Fr.trans hF1287 hF1291) hF1302) hF1305) hF1342) hF1404) hF1414) hF1421) hF1472) hF1476) hF1484).to').two rfl (by omega) rfl, ins_length (k1269, s1270) hi]
              have hW1486 : WOk _ _ _ _ [⟨A1400, c1401, 61, 2, (out.take i ++ (k1269, s1270) :: out.drop i).length, (css.take i ++ [.int .u32 k1269, .slice A1272 s1270.length c1273] :: css.drop i).flatten⟩] := hW1483.castR (congrArg (fun r_ => List.set [⟨A1400, c1401, 61, 2, out.length + 1, splice ((rowAt css [.int .u32 0, .slice none 0 0] i).flatten) (i * 2) [.int .u32 k1269, .slice A1272 s1270.length c1273]⟩] 0 r_) er1485)
              have hF1488 : Fr w1475 [] [⟨A1400, c1401, 61, 2, out.length + 1, splice ((rowAt css [.int .u32 0, .slice none 0 0] i).flatten) (i * 2) [.int .u32 k1269, .slice A1272 s1270.length c1273]⟩] w1475 [] [⟨A1400, c1401, 61, 2, (out.take i ++ (k1269, s1270) :: out.drop i).length, (css.take i ++ [.int .u32 k1269, .slice A1272 s1270.length c1273] :: css.drop i).flatten⟩] := Fr.castR (Fr.refl _ _ _) (congrArg (fun r_ => List.set [⟨A1400, c1401, 61, 2, out.length + 1, splice ((rowAt css [.int .u32 0, .slice none 0 0] i).flatten) (i * 2) [.int .u32 k1269, .slice A1272 s1270.length c1273]⟩] 0 r_) er1485)
              clear hW1483
              have hE1489 := EnvOk.pick hE1482 (ks := [5, 6, 17, 18, 19]) (env' := [(5, .v (.int .u32 (knownI l))), (6, .v (.slice A1400 (out.length + 1) c1401)), (17, .v (.slice A ((u.take 32767).length) c)), (18, .v (.int .i64 (((u.take 32767).length : Nat) : Int))), (19, .v (.int .i64 (IntKind.i64.wrap (((k : Nat) : Int) + 1))))]) (by kernel_rfl)
              have he1490 : IntKind.i64.wrap (((k : Nat) : Int) + 1) = ((k + 1 : Nat) : Int) := wrap_succ (by omega)
              rw [he1490] at hE1489
              have he1491 : out.length + 1 = (out.take i ++ (k1269, s1270) :: out.drop i).length := ins_length (k1269, s1270) hi
              rw [he1491] at hE1489
              exact ⟨(u.take 32767).length - (k + 1), by omega, k + 1, A1400, c1401, (out.take i ++ (k1269, s1270) :: out.drop i), (css.take i ++ [.int .u32 k1269, .slice A1272 s1270.length c1273] :: css.drop i), rfl, by omega, (hT.move (Fr.trans (Fr.trans (Fr.trans (Fr.trans (Fr.trans (Fr.trans (Fr.trans (Fr.trans (Fr.trans (Fr.trans (Fr.trans hF1287 hF1291) hF1302) hF1305) hF1342) hF1404) hF1414) hF1421) hF1472) hF1476) hF1484) hF1488).step immM (Fr.trans (Fr.trans (Fr.trans (Fr.trans (Fr.trans (Fr.trans (Fr.trans (Fr.trans (Fr.trans (Fr.trans (Fr.trans hF1287 hF1291) hF1302) hF1305) hF1342) hF1404) hF1414) hF1421) hF1472) hF1476) hF1484) hF1488).to').ins ⟨⟨A1272, c1273, rfl, (hb1275.move hW1486.step nilM hW1486.imm)⟩, h1276, h1277⟩ hi, by rw [foldl_take_succ he1271, ← hout]; exact (ins_new (tagPos_eq hi hlt (fun _ => by first | (rw [getD_fst hx1319]; omega) | (rw [getD_fst hx1372]; omega))) (by assumption) (fun _ => by first | (rw [getD_fst hx1319]; omega) | (rw [getD_fst hx1372]; omega))).symm, by rw [← ins_length (k1269, s1270) hi]; omega, hE1489, hW1486, (Fr.trans (Fr.trans (Fr.trans (Fr.trans (Fr.trans (Fr.trans (Fr.trans (Fr.trans (Fr.trans (Fr.trans (Fr.trans (Fr.trans hF1258 hF1287) hF1291) hF1302) hF1305) hF1342) hF1404) hF1414) hF1421) hF1472) hF1476) hF1484) hF1488)⟩
    ·
      have hf1492 := of_decide_eq_false hc1309
      have hE1493 := hE1308.cast (env' := [(5, .v (.int .u32 (knownI l))), (6, .v (.slice A_ out.length c_)), (8, .p 0 0), (9, .v (.int .i64 ((i : Nat) : Int))), (17, .v (.slice A ((u.take 32767).length) c)), (18, .v (.int .i64 (((u.take 32767).length : Nat) : Int))), (19, .v (.int .i64 ((k : Nat) : Int))), (27, .v (.bool false))]) (by rw [hc1309])
      clear hE1308
      refine go_runsD [5, 6, 7, 8, 9, 10, 11, 12, 13] [5, 6, 8, 9, 17, 18, 19, 36] 0 (by kernel_rfl) (panicFree_then (panicFree_then (panicFree_then (panicFree_block (panicFree_then (panicFree_block (panicFree_then (panicFree_then (panicFree_block (panicFree_then panicFree_body)))))))))) (fun _ h => h ▸ hW1306.cells) rfl hE1493 (by kernel_rfl) (env' := [(5, .v (.int .u32 (knownI l))), (6, .v (.slice A_ out.length c_)), (8, .p 0 0), (9, .v (.int .i64 ((i : Nat) : Int))), (17, .v (.slice A ((u.take 32767).length) c)), (18, .v (.int .i64 (((u.take 32767).length : Nat) : Int))), (19, .v (.int .i64 ((k : Nat) : Int))), (36, .v (.bool false))]) (by kernel_rfl) rfl fun a1494 hE1495 => ?_
      clear hE1493
      refine anyC_done (by kernel_rfl) ?_ _
      refine then_normal ?_
      refine cond_false hE1495 (b := false) (by kernel_rfl) rfl ?_
      refine wp_exit ?_
      refine then_exit ?_
      refine then_exit ?_
      refine block_exit ?_
      refine then_normal ?_
      refine wp_seq ?_
      refine go_seq_drawQ (by kernel_rfl) hW1306 fun w1496 hF1497 hW1498 => ?_
      refine go_runsD [0, 1, 2, 3, 4] [5, 6, 8, 9, 17, 18, 19, 43] 15 (by kernel_rfl) (panicFree_then (panicFree_then (panicFree_block (panicFree_then (panicFree_then (panicFree_block (panicFree_then panicFree_body))))))) (fun _ h => h ▸ hW1498.cells) rfl hE1495 (by kernel_rfl) (env' := [(5, .v (.int .u32 (knownI l))), (6, .v (.slice A_ out.length c_)), (8, .p 0 0), (9, .v (.int .i64 ((i : Nat) : Int))), (17, .v (.slice A ((u.take 32767).length) c)), (18, .v (.int .i64 (((u.take 32767).length : Nat) : Int))), (19, .v (.int .i64 ((k : Nat) : Int))), (43, .v (.bool (decide (k1269 < (knownI l)))))]) (by kernel_rfl) rfl fun a1499 hE1500 => ?_
      clear hE1495
      refine (Bool.eq_false_or_eq_true (decide (k1269 < (knownI l)))).elim (fun hc1501 => ?_) (fun hc1501 => ?_)
      ·
        have hf1502 := of_decide_eq_true hc1501
        have hE1503 := hE1500.cast (env' := [(5, .v (.int .u32 (knownI l))), (6, .v (.slice A_ out.length c_)), (8, .p 0 0), (9, .v (.int .i64 ((i : Nat) : Int))), (17, .v (.slice A ((u.take 32767).length) c)), (18, .v (.int .i64 (((u.take 32767).length : Nat) : Int))), (19, .v (.int .i64 ((k : Nat) : Int))), (43, .v (.bool true))]) (by rw [hc1501])
        clear hE1500
        refine go_runsD [5, 6, 7, 8, 9, 10, 11, 12, 13, 14, 15, 16, 17, 18, 19] [5, 6, 8, 9, 17, 18, 19, 58] 0 (by kernel_rfl) (panicFree_then (panicFree_then (panicFree_block (panicFree_then (panicFree_then (panicFree_block (panicFree_then panicFree_body))))))) (fun _ h => h ▸ hW1498.cells) rfl hE1503 (by kernel_rfl) (env' := [(5, .v (.int .u32 (knownI l))), (6, .v (.slice A_ out.length c_)), (8, .p 0 0), (9, .v (.int .i64 ((i : Nat) : Int))), (17, .v (.slice A ((u.take 32767).length) c)), (18, .v (.int .i64 (((u.take 32767).length : Nat) : Int))), (19, .v (.int .i64 ((k : Nat) : Int))), (58, .v (.bool true))]) (by kernel_rfl) rfl fun a1504 hE1505 => ?_
        clear hE1503
        refine anyC_done (by kernel_rfl) ?_ _
        refine then_normal ?_
        refine cond_true hE1505 (b := true) (by kernel_rfl) rfl ?_
        refine wp_exit ?_
        refine then_exit ?_
        refine block_exit ?_
        refine then_normal ?_
        refine go_region [0, 1] (by kernel_rfl) ?_
        refine go_runs [0, 1] [] [5, 6, 17, 18, 19] hW1498 hE1505 (env' := [(5, .v (.int .u32 (knownI l))), (6, .v (.slice A_ out.length c_)), (17, .v (.slice A ((u.take 32767).length) c)), (18, .v (.int .i64 (((u.take 32767).length : Nat) : Int))), (19, .v (.int .i64 (IntKind.i64.wrap (((k : Nat) : Int) + 1))))]) (by kernel_rfl) rfl fun a1506 hE1507 => ?_
        clear hE1505
        refine wpOps_nil ?_
        refine then_normal ?_
        have hE1508 := EnvOk.pick hE1507 (ks := [5, 6, 17, 18, 19]) (env' := [(5, .v (.int .u32 (knownI l))), (6, .v (.slice A_ out.length c_)), (17, .v (.slice A ((u.take 32767).length) c)), (18, .v (.int .i64 (((u.take 32767).length : Nat) : Int))), (19, .v (.int .i64 (IntKind.i64.wrap (((k : Nat) : Int) + 1))))]) (by kernel_rfl)
        have hE1509 : EnvOk 85 [] _ _ := hE1508.cutTb 0 (by kernel_rfl)
        have hW1510 : WOk _ _ _ [] _ := hW1498.cutTb 0
        have hF1511 : Fr _ _ _ _ [] _ := Fr.cutTb w1496 [⟨b1282, 0, [.int .u32 k1269, .slice A1272 s1270.length c1273], true⟩] [⟨A_, c_, 61, 2, out.length, css.flatten⟩] 0
        have hE1512 := EnvOk.pick hE1509 (ks := [5, 6, 17, 18, 19]) (env' := [(5, .v (.int .u32 (knownI l))), (6, .v (.slice A_ out.length c_)), (17, .v (.slice A ((u.take 32767).length) c)), (18, .v (.int .i64 (((u.take 32767).length : Nat) : Int))), (19, .v (.int .i64 (IntKind.i64.wrap (((k : Nat) : Int) + 1))))]) (by kernel_rfl)
        have he1513 : IntKind.i64.wrap (((k : Nat) : Int) + 1) = ((k + 1 : Nat) : Int) := wrap_succ (by omega)
        rw [he1513] at hE1512
        exact ⟨(u.take 32767).length - (k + 1), by omega, k + 1, A_, c_, out, css, rfl, by omega, (hT.move (Fr.trans (Fr.trans (Fr.trans (Fr.trans (Fr.trans hF1287 hF1291) hF1302) hF1305) hF1497) hF1511).step immM (Fr.trans (Fr.trans (Fr.trans (Fr.trans (Fr.trans hF1287 hF1291) hF1302) hF1305) hF1497) hF1511).to'), by rw [foldl_take_succ he1271, ← hout]; exact (ins_low (by assumption)).symm, by omega, hE1512, hW1510, (Fr.trans (Fr.trans (Fr.trans (Fr.trans (Fr.trans (Fr.trans hF1258 hF1287) hF1291) hF1302) hF1305) hF1497) hF1511)⟩
      ·
        have hf1514 := of_decide_eq_false hc1501
        have hE1515 := hE1500.cast (env' := [(5, .v (.int .u32 (knownI l))), (6, .v (.slice A_ out.length c_)), (8, .p 0 0), (9, .v (.int .i64 ((i : Nat) : Int))), (17, .v (.slice A ((u.take 32767).length) c)), (18, .v (.int .i64 (((u.take 32767).length : Nat) : Int))), (19, .v (.int .i64 ((k : Nat) : Int))), (43, .v (.bool false))]) (by rw [hc1501])
        clear hE1500
        refine go_runsD [5, 6, 7, 8, 9] [5, 6, 8, 9, 17, 18, 19, 43, 48] 10 (by kernel_rfl) (panicFree_then (panicFree_then (panicFree_block (panicFree_then (panicFree_then (panicFree_block (panicFree_then panicFree_body))))))) (fun _ h => h ▸ hW1498.cells) rfl hE1515 (by kernel_rfl) (env' := [(5, .v (.int .u32 (knownI l))), (6, .v (.slice A_ out.length c_)), (8, .p 0 0), (9, .v (.int .i64 ((i : Nat) : Int))), (17, .v (.slice A ((u.take 32767).length) c)), (18, .v (.int .i64 (((u.take 32767).length : Nat) : Int))), (19, .v (.int .i64 ((k : Nat) : Int))), (43, .v (.bool false)), (48, .v (.bool (decide (((i : Nat) : Int) < ((out.length : Nat) : Int)))))]) (by kernel_rfl) rfl fun a1516 hE1517 => ?_
        clear hE1515
        have hc1518 : (decide (((i : Nat) : Int) < ((out.length : Nat) : Int))) = false := hc1309
        have hE1519 := hE1517.cast (env' := [(5, .v (.int .u32 (knownI l))), (6, .v (.slice A_ out.length c_)), (8, .p 0 0), (9, .v (.int .i64 ((i : Nat) : Int))), (17, .v (.slice A ((u.take 32767).length) c)), (18, .v (.int .i64 (((u.take 32767).length : Nat) : Int))), (19, .v (.int .i64 ((k : Nat) : Int))), (43, .v (.bool false)), (48, .v (.bool false))]) (by rw [hc1518])
        clear hE1517
        refine go_runsD [10, 11, 12, 13, 14, 15, 16, 17, 18, 19] [5, 6, 8, 9, 17, 18, 19, 58] 0 (by kernel_rfl) (panicFree_then (panicFree_then (panicFree_block (panicFree_then (panicFree_then (panicFree_block (panicFree_then panicFree_body))))))) (fun _ h => h ▸ hW1498.cells) rfl hE1519 (by kernel_rfl) (env' := [(5, .v (.int .u32 (knownI l))), (6, .v (.slice A_ out.length c_)), (8, .p 0 0), (9, .v (.int .i64 ((i : Nat) : Int))), (17, .v (.slice A ((u.take 32767).length) c)), (18, .v (.int .i64 (((u.take 32767).length : Nat) : Int))), (19, .v (.int .i64 ((k : Nat) : Int))), (58, .v (.bool false))]) (by kernel_rfl) rfl fun a1520 hE1521 => ?_
        clear hE1519
        refine anyC_done (by kernel_rfl) ?_ _
        refine then_normal ?_
        refine cond_false hE1521 (b := false) (by kernel_rfl) rfl ?_
        refine wp_skip ?_
        refine then_normal ?_
        refine go_seq_region [0, 1, 2, 3, 4] (by kernel_rfl) ?_
        refine go_runs [0, 1] [2, 3, 4] [5, 8, 9, 17, 18, 19, 59, 60] hW1498 hE1521 (env' := [(5, .v (.int .u32 (knownI l))), (8, .p 0 0), (9, .v (.int .i64 ((i : Nat) : Int))), (17, .v (.slice A ((u.take 32767).length) c)), (18, .v (.int .i64 (((u.take 32767).length : Nat) : Int))), (19, .v (.int .i64 ((k : Nat) : Int))), (59, .v (.slice A_ out.length c_)), (60, .v (.agg #[.int .u32 0, .slice none 0 0]))]) (by kernel_rfl) rfl fun a1522 hE1523 => ?_
        clear hE1521
        refine wpOps_push hW1498 hE1523 (k := 0) (e := 61) (size := 2) (len := 1) (cs := [.int .u32 0, .slice none 0 0]) (d1 := 61) (d := 62) (by kernel_rfl) (t := 24) (bytes := 32) (by kernel_rfl) (fun _ => by kernel_rfl) rfl (by kernel_rfl) (by omega) fun A1524 c1525 a1526 w1527 hF1528 hW1529 ⟨_, hE1530⟩ => ?_
        clear hE1523
        refine go_runs [4] [] [5, 6, 8, 9, 17, 18, 19] hW1529 hE1530 (env' := [(5, .v (.int .u32 (knownI l))), (6, .v (.slice A1524 (out.length + 1) c1525)), (8, .p 0 0), (9, .v (.int .i64 ((i : Nat) : Int))), (17, .v (.slice A ((u.take 32767).length) c)), (18, .v (.int .i64 (((u.take 32767).length : Nat) : Int))), (19, .v (.int .i64 ((k : Nat) : Int)))]) (by kernel_rfl) rfl fun a1531 hE1532 => ?_
        clear hE1530
        refine wpOps_nil ?_
        refine then_normal ?_
        refine wp_seq ?_
        refine go_seq_region [0, 1, 2, 3] (by kernel_rfl) ?_
        refine go_runs [0, 1, 2, 3] [] [5, 6, 8, 9, 10, 17, 18, 19] hW1529 hE1532 (env' := [(5, .v (.int .u32 (knownI l))), (6, .v (.slice A1524 (out.length + 1) c1525)), (8, .p 0 0), (9, .v (.int .i64 ((i : Nat) : Int))), (10, .v (.int .i64 (IntKind.i64.wrap (((out.length + 1 : Nat) : Int) - 1)))), (17, .v (.slice A ((u.take 32767).length) c)), (18, .v (.int .i64 (((u.take 32767).length : Nat) : Int))), (19, .v (.int .i64 ((k : Nat) : Int)))]) (by kernel_rfl) rfl fun a1533 hE1534 => ?_
        clear hE1532
        refine wpOps_nil ?_
        refine then_normal ?_
        refine wp_block ?_
        have hcl0 := (hT.move (Fr.trans (Fr.trans (Fr.trans (Fr.trans (Fr.trans hF1287 hF1291) hF1302) hF1305) hF1497) hF1528).step immM (Fr.trans (Fr.trans (Fr.trans (Fr.trans (Fr.trans hF1287 hF1291) hF1302) hF1305) hF1497) hF1528).to').len
        have er1535 : (⟨A1524, c1525, 61, 2, out.length + 1, css.flatten ++ [.int .u32 0, .slice none 0 0]⟩ : Rw) = ⟨A1524, c1525, 61, 2, out.length + 1, (rowAt css [.int .u32 0, .slice none 0 0] out.length).flatten⟩ := by rw [push_row hcl0]
        have hW1536 : WOk _ _ _ _ [⟨A1524, c1525, 61, 2, out.length + 1, (rowAt css [.int .u32 0, .slice none 0 0] out.length).flatten⟩] := hW1529.castR (congrArg (fun r_ => List.set [⟨A1524, c1525, 61, 2, out.length + 1, css.flatten ++ [.int .u32 0, .slice none 0 0]⟩] 0 r_) er1535)
        have hF1538 : Fr w1527 [⟨b1282, 0, [.int .u32 k1269, .slice A1272 s1270.length c1273], true⟩] [⟨A1524, c1525, 61, 2, out.length + 1, css.flatten ++ [.int .u32 0, .slice none 0 0]⟩] w1527 [⟨b1282, 0, [.int .u32 k1269, .slice A1272 s1270.length c1273], true⟩] [⟨A1524, c1525, 61, 2, out.length + 1, (rowAt css [.int .u32 0, .slice none 0 0] out.length).flatten⟩] := Fr.castR (Fr.refl _ _ _) (congrArg (fun r_ => List.set [⟨A1524, c1525, 61, 2, out.length + 1, css.flatten ++ [.int .u32 0, .slice none 0 0]⟩] 0 r_) er1535)
        clear hW1529
        have hE1546 := EnvOk.pick hE1534 (ks := [5, 6, 8, 9, 10, 17, 18, 19]) (env' := [(5, .v (.int .u32 (knownI l))), (6, .v (.slice A1524 (out.length + 1) c1525)), (8, .p 0 0), (9, .v (.int .i64 ((i : Nat) : Int))), (10, .v (.int .i64 (IntKind.i64.wrap (((out.length + 1 : Nat) : Int) - 1)))), (17, .v (.slice A ((u.take 32767).length) c)), (18, .v (.int .i64 (((u.take 32767).length : Nat) : Int))), (19, .v (.int .i64 ((k : Nat) : Int)))]) (by kernel_rfl)
        have he1547 : IntKind.i64.wrap (((out.length + 1 : Nat) : Int) - 1) = ((out.length : Nat) : Int) := by rw [wrap_i64 (by omega) (by omega)]; omega
        rw [he1547] at hE1546
        refine wp_loop_ghost (fun n_ a_ w_ => ∃ (j : Nat), n_ = j ∧ (i ≤ j) ∧ (j ≤ out.length) ∧ EnvOk 85 [⟨b1282, 0, [.int .u32 k1269, .slice A1272 s1270.length c1273], true⟩] [(5, .v (.int .u32 (knownI l))), (6, .v (.slice A1524 (out.length + 1) c1525)), (8, .p 0 0), (9, .v (.int .i64 ((i : Nat) : Int))), (10, .v (.int .i64 ((j : Nat) : Int))), (17, .v (.slice A ((u.take 32767).length) c)), (18, .v (.int .i64 (((u.take 32767).length : Nat) : Int))), (19, .v (.int .i64 ((k : Nat) : Int)))] a_ ∧ WOk w Nil w_ [⟨b1282, 0, [.int .u32 k1269, .slice A1272 s1270.length c1273], true⟩] [⟨A1524, c1525, 61, 2, out.length + 1, (rowAt css [.int .u32 0, .slice none 0 0] j).flatten⟩] ∧ Fr w1527 [⟨b1282, 0, [.int .u32 k1269, .slice A1272 s1270.length c1273], true⟩] [⟨A1524, c1525, 61, 2, out.length + 1, (rowAt css [.int .u32 0, .slice none 0 0] out.length).flatten⟩] w_ [⟨b1282, 0, [.int .u32 k1269, .slice A1272 s1270.length c1273], true⟩] [⟨A1524, c1525, 61, 2, out.length + 1, (rowAt css [.int .u32 0, .slice none 0 0] j).flatten⟩]) (out.length) ⟨out.length, rfl, hi, Nat.le_refl _, hE1546, hW1536, Fr.refl _ _ _⟩ ?_
        clear hE1546 hE1534 hW1536
        rintro n1539 a1540 w1541 ⟨j, hn1544, hij, hjl, hE1542, hW1543, hF1545⟩
        refine wp_seq ?_
        refine go_seq_region [0, 1, 2] (by kernel_rfl) ?_
        refine go_runs [0, 1, 2] [] [5, 6, 8, 9, 10, 17, 18, 19, 68] hW1543 hE1542 (env' := [(5, .v (.int .u32 (knownI l))), (6, .v (.slice A1524 (out.length + 1) c1525)), (8, .p 0 0), (9, .v (.int .i64 ((i : Nat) : Int))), (10, .v (.int .i64 ((j : Nat) : Int))), (17, .v (.slice A ((u.take 32767).length) c)), (18, .v (.int .i64 (((u.take 32767).length : Nat) : Int))), (19, .v (.int .i64 ((k : Nat) : Int))), (68, .v (.bool (decide (((j : Nat) : Int) > ((i : Nat) : Int)))))]) (by kernel_rfl) rfl fun a1548 hE1549 => ?_
        clear hE1542
        refine wpOps_nil ?_
        refine then_normal ?_
        refine cond_of hE1549 (b := decide (((j : Nat) : Int) > ((i : Nat) : Int))) (by kernel_rfl) (fun hc1550 => ?_) (fun hc1550 => ?_)
        ·
          have hf1551 := of_decide_eq_true hc1550
          refine wp_skip ?_
          refine then_normal ?_
          refine wp_seq ?_
          refine wp_block ?_
          refine go_region [0, 1, 2, 3, 4, 5, 6, 7, 8] (by kernel_rfl) ?_
          refine go_runs [0, 1, 2, 3, 4] [5, 6, 7, 8] [5, 6, 8, 9, 10, 17, 18, 19, 71, 72, 73, 75] hW1543 hE1549 (env' := [(5, .v (.int .u32 (knownI l))), (6, .v (.slice A1524 (out.length + 1) c1525)), (8, .p 0 0), (9, .v (.int .i64 ((i : Nat) : Int))), (10, .v (.int .i64 ((j : Nat) : Int))), (17, .v (.slice A ((u.take 32767).length) c)), (18, .v (.int .i64 (((u.take 32767).length : Nat) : Int))), (19, .v (.int .i64 ((k : Nat) : Int))), (71, .v (.slice A1524 (out.length + 1) c1525)), (72, .v (.int .i64 ((j : Nat) : Int))), (73, .v (.slice A1524 (out.length + 1) c1525)), (75, .v (.int .i64 (IntKind.i64.wrap (((j : Nat) : Int) - 1))))]) (by kernel_rfl) rfl fun a1552 hE1553 => ?_
          clear hE1549
          obtain ⟨g1554, hA1555⟩ := own_addr (hW1543.own 0 _ rfl) (show 0 < out.length + 1 by omega)
          obtain ⟨⟨k1557, s1558⟩, hx1559⟩ : ∃ x, out[j - 1]? = some x := ⟨_, List.getElem?_eq_getElem (by omega)⟩
          obtain ⟨A1560, c1561, hc1562, hO1563, h1564, h1565⟩ := TagsE.get2 (hT.move (Fr.trans (Fr.trans (Fr.trans (Fr.trans (Fr.trans (Fr.trans (Fr.trans hF1287 hF1291) hF1302) hF1305) hF1497) hF1528) hF1538) hF1545).step immM (Fr.trans (Fr.trans (Fr.trans (Fr.trans (Fr.trans (Fr.trans (Fr.trans hF1287 hF1291) hF1302) hF1305) hF1497) hF1528) hF1538) hF1545).to') hx1559
          have hat1556 := own_at (hW1543.own 0 _ rfl) hA1555 (flat_cells (rowAt_two (hT.move (Fr.trans (Fr.trans (Fr.trans (Fr.trans (Fr.trans (Fr.trans (Fr.trans hF1287 hF1291) hF1302) hF1305) hF1497) hF1528) hF1538) hF1545).step immM (Fr.trans (Fr.trans (Fr.trans (Fr.trans (Fr.trans (Fr.trans (Fr.trans hF1287 hF1291) hF1302) hF1305) hF1497) hF1528) hF1538) hF1545).to').two rfl j) (rowAt_get (show j - 1 < j by omega) hc1562))
          refine of_op (wpOp_index hE1553 (t := 24) (A := A1524) (m := (out.length + 1)) (q := (IntKind.i64.wrap (((j : Nat) : Int) - 1))) (d := 76) (by kernel_rfl) (e := 61) (size := 2) (bytes := 32) (by kernel_rfl) (b := g1554) (o := 0) (j := (j - 1)) hA1555 (by rw [wrap_i64 (by omega) (by omega)]; omega) (by omega) fun a1566 hE1567 => ?_)
          clear hE1553
          refine of_op (wpOp_load hE1567 (t := 61) (b := g1554) (o := 0 + (j - 1) * 2) (d := 77) (by kernel_rfl) (cs := [.int .u32 k1557, .slice A1560 s1558.length c1561]) (v := .agg #[.int .u32 k1557, .slice A1560 s1558.length c1561]) (by kernel_rfl) hat1556 fun a1568 hE1569 => ?_)
          clear hE1567
          obtain ⟨g1570, hA1571⟩ := own_addr (hW1543.own 0 _ rfl) (show 0 < out.length + 1 by omega)
          refine of_op (wpOp_index hE1569 (t := 24) (A := A1524) (m := (out.length + 1)) (q := ((j : Nat) : Int)) (d := 78) (by kernel_rfl) (e := 61) (size := 2) (bytes := 32) (by kernel_rfl) (b := g1570) (o := 0) (j := j) hA1571 (rfl) (by omega) fun a1573 hE1574 => ?_)
          clear hE1569
          refine of_op (wpOp_storeR hW1543 hE1574 (k := 0) (g := g1570) (o := j * 2) (c := c1525) (m := (out.length + 1)) (size := 2) (e := 61) (A := A1524) (xs := ((rowAt css [.int .u32 0, .slice none 0 0] j).flatten)) (vs := [.int .u32 k1557, .slice A1560 s1558.length c1561]) (by kernel_rfl) rfl hA1571 (by simp only [List.length_cons, List.length_nil]; omega) fun w1575 hF1576 hW1577 hE1578 => ?_)
          clear hE1574 hW1543
          refine wpOps_nil ?_
          refine block_normal ?_
          refine then_normal ?_
          refine go_region [0, 1, 2] (by kernel_rfl) ?_
          refine go_runs [0, 1, 2] [] [5, 6, 8, 9, 10, 17, 18, 19] hW1577 hE1578 (env' := [(5, .v (.int .u32 (knownI l))), (6, .v (.slice A1524 (out.length + 1) c1525)), (8, .p 0 0), (9, .v (.int .i64 ((i : Nat) : Int))), (10, .v (.int .i64 (IntKind.i64.wrap (((j : Nat) : Int) - 1)))), (17, .v (.slice A ((u.take 32767).length) c)), (18, .v (.int .i64 (((u.take 32767).length : Nat) : Int))), (19, .v (.int .i64 ((k : Nat) : Int)))]) (by kernel_rfl) rfl fun a1579 hE1580 => ?_
          clear hE1578
          refine wpOps_nil ?_
          refine then_normal ?_
          have er1581 : (⟨A1524, c1525, 61, 2, out.length + 1, splice ((rowAt css [.int .u32 0, .slice none 0 0] j).flatten) (j * 2) [.int .u32 k1557, .slice A1560 s1558.length c1561]⟩ : Rw) = ⟨A1524, c1525, 61, 2, out.length + 1, (rowAt css [.int .u32 0, .slice none 0 0] (j - 1)).flatten⟩ := by rw [shift_row (hT.move (Fr.trans (Fr.trans (Fr.trans (Fr.trans (Fr.trans (Fr.trans (Fr.trans (Fr.trans hF1287 hF1291) hF1302) hF1305) hF1497) hF1528) hF1538) hF1545) hF1576).step immM (Fr.trans (Fr.trans (Fr.trans (Fr.trans (Fr.trans (Fr.trans (Fr.trans (Fr.trans hF1287 hF1291) hF1302) hF1305) hF1497) hF1528) hF1538) hF1545) hF1576).to').two rfl (by omega) (by omega) hc1562]
          have hW1582 : WOk _ _ _ _ [⟨A1524, c1525, 61, 2, out.length + 1, (rowAt css [.int .u32 0, .slice none 0 0] (j - 1)).flatten⟩] := hW1577.castR (congrArg (fun r_ => List.set [⟨A1524, c1525, 61, 2, out.length + 1, splice ((rowAt css [.int .u32 0, .slice none 0 0] j).flatten) (j * 2) [.int .u32 k1557, .slice A1560 s1558.length c1561]⟩] 0 r_) er1581)
          have hF1584 : Fr w1575 [⟨b1282, 0, [.int .u32 k1269, .slice A1272 s1270.length c1273], true⟩] [⟨A1524, c1525, 61, 2, out.length + 1, splice ((rowAt css [.int .u32 0, .slice none 0 0] j).flatten) (j * 2) [.int .u32 k1557, .slice A1560 s1558.length c1561]⟩] w1575 [⟨b1282, 0, [.int .u32 k1269, .slice A1272 s1270.length c1273], true⟩] [⟨A1524, c1525, 61, 2, out.length + 1, (rowAt css [.int .u32 0, .slice none 0 0] (j - 1)).flatten⟩] := Fr.castR (Fr.refl _ _ _) (congrArg (fun r_ => List.set [⟨A1524, c1525, 61, 2, out.length + 1, splice ((rowAt css [.int .u32 0, .slice none 0 0] j).flatten) (j * 2) [.int .u32 k1557, .slice A1560 s1558.length c1561]⟩] 0 r_) er1581)
          clear hW1577
          have hE1585 := EnvOk.pick hE1580 (ks := [5, 6, 8, 9, 10, 17, 18, 19]) (env' := [(5, .v (.int .u32 (knownI l))), (6, .v (.slice A1524 (out.length + 1) c1525)), (8, .p 0 0), (9, .v (.int .i64 ((i : Nat) : Int))), (10, .v (.int .i64 (IntKind.i64.wrap (((j : Nat) : Int) - 1)))), (17, .v (.slice A ((u.take 32767).length) c)), (18, .v (.int .i64 (((u.take 32767).length : Nat) : Int))), (19, .v (.int .i64 ((k : Nat) : Int)))]) (by kernel_rfl)
          have he1586 : IntKind.i64.wrap (((j : Nat) : Int) - 1) = ((j - 1 : Nat) : Int) := by rw [wrap_i64 (by omega) (by omega)]; omega
          rw [he1586] at hE1585
          exact ⟨(j - 1), by omega, (j - 1), rfl, by omega, by omega, hE1585, hW1582, (Fr.trans (Fr.trans hF1545 hF1576) hF1584)⟩
        ·
          have hf1587 := of_decide_eq_false hc1550
          refine wp_exit ?_
          refine then_exit ?_
          refine then_exit ?_
          refine block_exit ?_
          refine then_normal ?_
          refine go_region [0, 1, 2, 3, 4] (by kernel_rfl) ?_
          refine go_runs [0, 1, 2] [3, 4] [5, 6, 17, 18, 19, 79, 80, 81] hW1543 hE1549 (env' := [(5, .v (.int .u32 (knownI l))), (6, .v (.slice A1524 (out.length + 1) c1525)), (17, .v (.slice A ((u.take 32767).length) c)), (18, .v (.int .i64 (((u.take 32767).length : Nat) : Int))), (19, .v (.int .i64 ((k : Nat) : Int))), (79, .v (.slice A1524 (out.length + 1) c1525)), (80, .v (.int .i64 ((i : Nat) : Int))), (81, .v (.agg #[.int .u32 k1269, .slice A1272 s1270.length c1273]))]) (by kernel_rfl) rfl fun a1588 hE1589 => ?_
          clear hE1549
          have hji : j = i := by omega
          have er1593 : (⟨A1524, c1525, 61, 2, out.length + 1, (rowAt css [.int .u32 0, .slice none 0 0] j).flatten⟩ : Rw) = ⟨A1524, c1525, 61, 2, out.length + 1, (rowAt css [.int .u32 0, .slice none 0 0] i).flatten⟩ := by rw [hji]
          have hW1594 : WOk _ _ _ _ [⟨A1524, c1525, 61, 2, out.length + 1, (rowAt css [.int .u32 0, .slice none 0 0] i).flatten⟩] := hW1543.castR (congrArg (fun r_ => List.set [⟨A1524, c1525, 61, 2, out.length + 1, (rowAt css [.int .u32 0, .slice none 0 0] j).flatten⟩] 0 r_) er1593)
          have hF1596 : Fr w1541 [⟨b1282, 0, [.int .u32 k1269, .slice A1272 s1270.length c1273], true⟩] [⟨A1524, c1525, 61, 2, out.length + 1, (rowAt css [.int .u32 0, .slice none 0 0] j).flatten⟩] w1541 [⟨b1282, 0, [.int .u32 k1269, .slice A1272 s1270.length c1273], true⟩] [⟨A1524, c1525, 61, 2, out.length + 1, (rowAt css [.int .u32 0, .slice none 0 0] i).flatten⟩] := Fr.castR (Fr.refl _ _ _) (congrArg (fun r_ => List.set [⟨A1524, c1525, 61, 2, out.length + 1, (rowAt css [.int .u32 0, .slice none 0 0] j).flatten⟩] 0 r_) er1593)
          clear hW1543
          obtain ⟨g1590, hA1591⟩ := own_addr (hW1594.own 0 _ rfl) (show 0 < out.length + 1 by omega)
          refine of_op (wpOp_index hE1589 (t := 24) (A := A1524) (m := (out.length + 1)) (q := ((i : Nat) : Int)) (d := 82) (by kernel_rfl) (e := 61) (size := 2) (bytes := 32) (by kernel_rfl) (b := g1590) (o := 0) (j := i) hA1591 (rfl) (by omega) fun a1597 hE1598 => ?_)
          clear hE1589
          refine of_op (wpOp_storeR hW1594 hE1598 (k := 0) (g := g1590) (o := i * 2) (c := c1525) (m := (out.length + 1)) (size := 2) (e := 61) (A := A1524) (xs := ((rowAt css [.int .u32 0, .slice none 0 0] i).flatten)) (vs := [.int .u32 k1269, .slice A1272 s1270.length c1273]) (by kernel_rfl) rfl hA1591 (by simp only [List.length_cons, List.length_nil]; omega) fun w1599 hF1600 hW1601 hE1602 => ?_)
          clear hE1598 hW1594
          refine wpOps_nil ?_
          refine block_normal ?_
          refine then_normal ?_
          refine go_region [0, 1] (by kernel_rfl) ?_
          refine go_runs [0, 1] [] [5, 6, 17, 18, 19] hW1601 hE1602 (env' := [(5, .v (.int .u32 (knownI l))), (6, .v (.slice A1524 (out.length + 1) c1525)), (17, .v (.slice A ((u.take 32767).length) c)), (18, .v (.int .i64 (((u.take 32767).length : Nat) : Int))), (19, .v (.int .i64 (IntKind.i64.wrap (((k : Nat) : Int) + 1))))]) (by kernel_rfl) rfl fun a1603 hE1604 => ?_
          clear hE1602
          refine wpOps_nil ?_
          refine then_normal ?_
          have hE1605 := EnvOk.pick hE1604 (ks := [5, 6, 17, 18, 19]) (env' := [(5, .v (.int .u32 (knownI l))), (6, .v (.slice A1524 (out.length + 1) c1525)), (17, .v (.slice A ((u.take 32767).length) c)), (18, .v (.int .i64 (((u.take 32767).length : Nat) : Int))), (19, .v (.int .i64 (IntKind.i64.wrap (((k : Nat) : Int) + 1))))]) (by kernel_rfl)
          have hE1606 : EnvOk 85 [] _ _ := hE1605.cutTb 0 (by kernel_rfl)
          have hW1607 : WOk _ _ _ [] _ := hW1601.cutTb 0
          have hF1608 : Fr _ _ _ _ [] _ := Fr.cutTb w1599 [⟨b1282, 0, [.int .u32 k1269, .slice A1272 s1270.length c1273], true⟩] [⟨A1524, c1525, 61, 2, out.length + 1, splice ((rowAt css [.int .u32 0, .slice none 0 0] i).flatten) (i * 2) [.int .u32 k1269, .slice A1272 s1270.length c1273]⟩] 0
          have hcl := (hT.move (Fr.trans (Fr.trans (Fr.trans (Fr.trans (Fr.trans (Fr.trans (Fr.trans (Fr.trans (Fr.trans (Fr.trans hF1287 hF1291) hF1302) hF1305) hF1497) hF1528) hF1538) hF1545) hF1596) hF1600) hF1608).step immM (Fr.trans (Fr.trans (Fr.trans (Fr.trans (Fr.trans (Fr.trans (Fr.trans (Fr.trans (Fr.trans (Fr.trans hF1287 hF1291) hF1302) hF1305) hF1497) hF1528) hF1538) hF1545) hF1596) hF1600) hF1608).to').len
          have er1609 : (⟨A1524, c1525, 61, 2, out.length + 1, splice ((rowAt css [.int .u32 0, .slice none 0 0] i).flatten) (i * 2) [.int .u32 k1269, .slice A1272 s1270.length c1273]⟩ : Rw) = ⟨A1524, c1525, 61, 2, (out.take i ++ (k1269, s1270) :: out.drop i).length, (css.take i ++ [.int .u32 k1269, .slice A1272 s1270.length c1273] :: css.drop i).flatten⟩ := by rw [place_row (hT.move (Fr.trans (Fr.trans (Fr.trans (Fr.trans (Fr.trans (Fr.trans (Fr.trans (Fr.trans (Fr.trans (Fr.trans hF1287 hF1291) hF1302) hF1305) hF1497) hF1528) hF1538) hF1545) hF1596) hF1600) hF1608).step immM (Fr.trans (Fr.trans (Fr.trans (Fr.trans (Fr.trans (Fr.trans (Fr.trans (Fr.trans (Fr.trans (Fr.trans hF1287 hF1291) hF1302) hF1305) hF1497) hF1528) hF1538) hF1545) hF1596) hF1600) hF1608).to').two rfl (by omega) rfl, ins_length (k1269, s1270) hi]
          have hW1610 : WOk _ _ _ _ [⟨A1524, c1525, 61, 2, (out.take i ++ (k1269, s1270) :: out.drop i).length, (css.take i ++ [.int .u32 k1269, .slice A1272 s1270.length c1273] :: css.drop i).flatten⟩] := hW1607.castR (congrArg (fun r_ => List.set [⟨A1524, c1525, 61, 2, out.length + 1, splice ((rowAt css [.int .u32 0, .slice none 0 0] i).flatten) (i * 2) [.int .u32 k1269, .slice A1272 s1270.length c1273]⟩] 0 r_) er1609)
          have hF1612 : Fr w1599 [] [⟨A1524, c1525, 61, 2, out.length + 1, splice ((rowAt css [.int .u32 0, .slice none 0 0] i).flatten) (i * 2) [.int .u32 k1269, .slice A1272 s1270.length c1273]⟩] w1599 [] [⟨A1524, c1525, 61, 2, (out.take i ++ (k1269, s1270) :: out.drop i).length, (css.take i ++ [.int .u32 k1269, .slice A1272 s1270.length c1273] :: css.drop i).flatten⟩] := Fr.castR (Fr.refl _ _ _) (congrArg (fun r_ => List.set [⟨A1524, c1525, 61, 2, out.length + 1, splice ((rowAt css [.int .u32 0, .slice none 0 0] i).flatten) (i * 2) [.int .u32 k1269, .slice A1272 s1270.length c1273]⟩] 0 r_) er1609)
          clear hW1607
          have hE1613 := EnvOk.pick hE1606 (ks := [5, 6, 17, 18, 19]) (env' := [(5, .v (.int .u32 (knownI l))), (6, .v (.slice A1524 (out.length + 1) c1525)), (17, .v (.slice A ((u.take 32767).length) c)), (18, .v (.int .i64 (((u.take 32767).length : Nat) : Int))), (19, .v (.int .i64 (IntKind.i64.wrap (((k : Nat) : Int) + 1))))]) (by kernel_rfl)
          have he1614 : IntKind.i64.wrap (((k : Nat) : Int) + 1) = ((k + 1 : Nat) : Int) := wrap_succ (by omega)
          rw [he1614] at hE1613
          have he1615 : out.length + 1 = (out.take i ++ (k1269, s1270) :: out.drop i).length := ins_length (k1269, s1270) hi
          rw [he1615] at hE1613
          exact ⟨(u.take 32767).length - (k + 1), by omega, k + 1, A1524, c1525, (out.take i ++ (k1269, s1270) :: out.drop i), (css.take i ++ [.int .u32 k1269, .slice A1272 s1270.length c1273] :: css.drop i), rfl, by omega, (hT.move (Fr.trans (Fr.trans (Fr.trans (Fr.trans (Fr.trans (Fr.trans (Fr.trans (Fr.trans (Fr.trans (Fr.trans (Fr.trans hF1287 hF1291) hF1302) hF1305) hF1497) hF1528) hF1538) hF1545) hF1596) hF1600) hF1608) hF1612).step immM (Fr.trans (Fr.trans (Fr.trans (Fr.trans (Fr.trans (Fr.trans (Fr.trans (Fr.trans (Fr.trans (Fr.trans (Fr.trans hF1287 hF1291) hF1302) hF1305) hF1497) hF1528) hF1538) hF1545) hF1596) hF1600) hF1608) hF1612).to').ins ⟨⟨A1272, c1273, rfl, (hb1275.move hW1610.step nilM hW1610.imm)⟩, h1276, h1277⟩ hi, by rw [foldl_take_succ he1271, ← hout]; exact (ins_new (tagPos_eq hi hlt (fun h_ => absurd h_ (by omega))) (by assumption) (fun h_ => absurd h_ (by omega))).symm, by rw [← ins_length (k1269, s1270) hi]; omega, hE1613, hW1610, (Fr.trans (Fr.trans (Fr.trans (Fr.trans (Fr.trans (Fr.trans (Fr.trans (Fr.trans (Fr.trans (Fr.trans (Fr.trans (Fr.trans hF1258 hF1287) hF1291) hF1302) hF1305) hF1497) hF1528) hF1538) hF1545) hF1596) hF1600) hF1608) hF1612)⟩
  ·
    have hf1616 := of_decide_eq_false hc1262
    refine wp_exit ?_
    refine then_exit ?_
    refine then_exit ?_
    refine block_exit ?_
    refine then_normal ?_
    refine go_seq_region [0, 1] (by kernel_rfl) ?_
    refine go_runs [0, 1] [] [4] hW1255 hE1261 (env' := [(4, .v (.slice A_ out.length c_))]) (by kernel_rfl) rfl fun a1617 hE1618 => ?_
    clear hE1261
    refine wpOps_nil ?_
    refine then_normal ?_
    refine wp_ret ?_
    refine leave hE1618 hW1255.cells (v := .slice A_ out.length c_) (by kernel_rfl) ?_
    exact unknown_end hW1255 (k := 0) rfl rfl rfl hT (by omega) (by rw [hout, List.take_of_length_le (by omega)]; rfl)

end Go.Proofs.Ytbjopfcbpobnpaa.ME
