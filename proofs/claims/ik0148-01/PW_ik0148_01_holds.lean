import PyProof.Rows.All
import Wide.All
import OpenK.AllK
import Wide.FinOn
import PySem.Challenge.RW_ik0148_01
set_option Elab.async false
set_option linter.unusedVariables false

namespace Mine
section TB0
open PySem PySem.W PyProof.Rows PySem.Calls
set_option maxRecDepth 100000
set_option maxHeartbeats 8000000
def rowB : OpenRow := { PySem.Challenge.rw_ik0148_01.row with name := Str.ofString "_law_below", args := [.str, .str], pre := .lit (.bool true), post := .lit (.bool true) }
theorem hz.tw10107942069339470369 : True := trivial
theorem hz.tw1011956964245799627 : True := trivial
theorem hz.tw10153267303197748439 : True := trivial
theorem hz.tw10165873656559617911 : True := trivial
theorem hz.tw10385708382651490404 : True := trivial
theorem hz.tw10404410436954668114 : True := trivial
theorem hz.tw10436673752053834956 : True := trivial
theorem hz.tw10506076553586440204 : True := trivial
theorem hz.tw10522965759934230622 : True := trivial
theorem hz.tw10542187544250527577 : True := trivial
theorem hz.tw1059211775924068136 : True := trivial
theorem hz.tw10634590977886902934 : True := trivial
theorem hz.tw10825546434683997549 : True := trivial
theorem hz.tw1084182863906447486 : True := trivial
theorem hz.tw10933051255674946531 : True := trivial
theorem hz.tw10937076816292961959 : True := trivial
theorem hz.tw10997401841508905028 : True := trivial
theorem hz.tw11017206002106760113 : True := trivial
theorem hz.tw11058751537032971823 : True := trivial
theorem hz.tw11137752532684724872 : True := trivial
theorem hz.tw11158925138923571986 : True := trivial
theorem hz.tw11192503412587135968 : True := trivial
theorem hz.tw11200521928165251703 : True := trivial
theorem hz.tw11258595686755370349 : True := trivial
theorem hz.tw1128411015368114841 : True := trivial
theorem hz.tw1131517712574107177 : True := trivial
theorem hz.tw11437319631612196313 : True := trivial
theorem hz.tw11683608003091529967 : True := trivial
theorem hz.tw11830678929990152114 : True := trivial
theorem hz.tw11875635585686892590 : True := trivial
theorem hz.tw11877463490528805624 : True := trivial
theorem hz.tw11924959393245886444 : True := trivial
theorem hz.tw11952643024043869961 : True := trivial
theorem hz.tw11994405481971948523 : True := trivial
theorem hz.tw12053311803439448089 : True := trivial
theorem hz.tw12094783367381009157 : True := trivial
theorem hz.tw12104965909573965367 : True := trivial
theorem hz.tw12142730676345982245 : True := trivial
theorem hz.tw12162185479837048945 : True := trivial
theorem hz.tw12229863294001042694 : True := trivial
theorem hz.tw1232741870705677767 : True := trivial
theorem hz.tw12361124937481065395 : True := trivial
theorem hz.tw12378328644191067336 : True := trivial
theorem hz.tw12407399420190198257 : True := trivial
theorem hz.tw1245650186304430166 : True := trivial
theorem hz.tw12629928811017745617 : True := trivial
theorem hz.tw12653559180779801582 : True := trivial
theorem hz.tw12701473085456249569 : True := trivial
theorem hz.tw12810321929769510677 : True := trivial
theorem hz.tw12857276501526585560 : True := trivial
theorem hz.tw12860187438816722402 : True := trivial
theorem hz.tw12947612336852668680 : True := trivial
theorem hz.tw13072085631274031897 : True := trivial
theorem hz.tw13192265305717443762 : True := trivial
theorem hz.tw13322142752630663547 : True := trivial
theorem hz.tw13344849054368335458 : True := trivial
theorem hz.tw13350297029778916019 : True := trivial
theorem hz.tw13370146851158167824 : True := trivial
theorem hz.tw13379858693892719590 : True := trivial
theorem hz.tw13423642505596300596 : True := trivial
theorem hz.tw13500751078821847277 : True := trivial
theorem hz.tw13579050973318176638 : True := trivial
theorem hz.tw1359662164462344070 : True := trivial
theorem hz.tw13601765088496029472 : True := trivial
theorem hz.tw13708395874590131200 : True := trivial
theorem hz.tw13726851219146468310 : True := trivial
theorem hz.tw13768760178465177502 : True := trivial
theorem hz.tw1385018620958232942 : True := trivial
theorem hz.tw13936352598169105723 : True := trivial
theorem hz.tw13957474436374006256 : True := trivial
theorem hz.tw14026697044112794940 : True := trivial
theorem hz.tw14086012016314669164 : True := trivial
theorem hz.tw14128758719165034554 : True := trivial
theorem hz.tw14136700305681311885 : True := trivial
theorem hz.tw14205454767551385726 : True := trivial
theorem hz.tw14206984928272028898 : True := trivial
theorem hz.tw14225157807694218829 : True := trivial
theorem hz.tw14268210265538614633 : True := trivial
theorem hz.tw14366788250059190139 : True := trivial
theorem hz.tw14633650196898751024 : True := trivial
theorem hz.tw14667088553357109582 : True := trivial
theorem hz.tw14725768573191863357 : True := trivial
theorem hz.tw1478901400257980881 : True := trivial
theorem hz.tw14907918385716958920 : True := trivial
theorem hz.tw14947300686886338620 : True := trivial
theorem hz.tw15027975080532362850 : True := trivial
theorem hz.tw15058503269290059100 : True := trivial
theorem hz.tw15110191313772394649 : True := trivial
theorem hz.tw15117712977110588794 : True := trivial
theorem hz.tw15131972492192672748 : True := trivial
theorem hz.tw15138949078426812324 : True := trivial
theorem hz.tw15262996803369322192 : True := trivial
theorem hz.tw1526914906504306866 : True := trivial
theorem hz.tw15295422897560589581 : True := trivial
theorem hz.tw15356549025495160774 : True := trivial
theorem hz.tw15412009539089081538 : True := trivial
theorem hz.tw15415305451095625928 : True := trivial
theorem hz.tw15484499678316213590 : True := trivial
theorem hz.tw1553197255774900947 : True := trivial
theorem hz.tw15614858937660582810 : True := trivial
theorem hz.tw15629000774522163529 : True := trivial
theorem hz.tw15642829575505359838 : True := trivial
theorem hz.tw15740682739359413649 : True := trivial
theorem hz.tw15921073761713741761 : True := trivial
theorem hz.tw1595559400252480414 : True := trivial
theorem hz.tw15975283427323347947 : True := trivial
theorem hz.tw15977980265284066037 : True := trivial
theorem hz.tw1600609128784298605 : True := trivial
theorem hz.tw16089446607438443454 : True := trivial
theorem hz.tw16148447335895692914 : True := trivial
theorem hz.tw1619758589177284021 : True := trivial
theorem hz.tw16224270846100015716 : True := trivial
theorem hz.tw16244015959188572248 : True := trivial
theorem hz.tw16320947689345711866 : True := trivial
theorem hz.tw16337586703928380875 : True := trivial
theorem hz.tw16338127713994568751 : True := trivial
theorem hz.tw16423612555033071484 : True := trivial
theorem hz.tw1642728536628680142 : True := trivial
theorem hz.tw16452157412264812005 : True := trivial
theorem hz.tw1656025728705834010 : True := trivial
theorem hz.tw16596077607741930858 : True := trivial
theorem hz.tw16617790212949947930 : True := trivial
theorem hz.tw16662636819385312213 : True := trivial
theorem hz.tw16739691452991639601 : True := trivial
theorem hz.tw16847173815103911999 : True := trivial
theorem hz.tw168898847350339444 : True := trivial
theorem hz.tw16895551491138271718 : True := trivial
theorem hz.tw16974589912344882784 : True := trivial
theorem hz.tw17069575250774953050 : True := trivial
theorem hz.tw17151146408714273319 : True := trivial
theorem hz.tw17229698734055881969 : True := trivial
theorem hz.tw17264125264331456767 : True := trivial
theorem hz.tw1726593842471533377 : True := trivial
theorem hz.tw17382399094686688910 : True := trivial
theorem hz.tw17460389362165038323 : True := trivial
theorem hz.tw17526434347482098973 : True := trivial
theorem hz.tw17750288393582482033 : True := trivial
theorem hz.tw17753902917466916509 : True := trivial
theorem hz.tw17813438383711784233 : True := trivial
theorem hz.tw17921134052142045598 : True := trivial
theorem hz.tw1792183059726978656 : True := trivial
theorem hz.tw17964555143084585827 : True := trivial
theorem hz.tw17993028845563450019 : True := trivial
theorem hz.tw18021170660936618352 : True := trivial
theorem hz.tw18178210866982006740 : True := trivial
theorem hz.tw18193865503031473328 : True := trivial
theorem hz.tw18223051347294401255 : True := trivial
theorem hz.tw18250114622762977504 : True := trivial
theorem hz.tw2018770930673933092 : True := trivial
theorem hz.tw2124256327529260002 : True := trivial
theorem hz.tw2244754287753589480 : True := trivial
theorem hz.tw2266292589131177820 : True := trivial
theorem hz.tw2342282358680032674 : True := trivial
theorem hz.tw2378959162892004019 : True := trivial
theorem hz.tw2414634198482547524 : True := trivial
theorem hz.tw2471590334264182933 : True := trivial
theorem hz.tw2503734534824126783 : True := trivial
theorem hz.tw2610478409592985164 : True := trivial
theorem hz.tw2659366690608564123 : True := trivial
theorem hz.tw2696045607461498616 : True := trivial
theorem hz.tw2915795554531470213 : True := trivial
theorem hz.tw3056881912097437410 : True := trivial
theorem hz.tw3137468806240774238 : True := trivial
theorem hz.tw315589087416937412 : True := trivial
theorem hz.tw3211632039444477067 : True := trivial
theorem hz.tw3298439603739818107 : True := trivial
theorem hz.tw3371859040278334612 : True := trivial
theorem hz.tw3456710941607780349 : True := trivial
theorem hz.tw3482364868866608915 : True := trivial
theorem hz.tw3505840018243110686 : True := trivial
theorem hz.tw3512928400696831886 : True := trivial
theorem hz.tw3518272810744490994 : True := trivial
theorem hz.tw3523891597054116217 : True := trivial
theorem hz.tw354878477472670961 : True := trivial
theorem hz.tw3634997574072903 : True := trivial
theorem hz.tw3730405904163986246 : True := trivial
theorem hz.tw3859522445245388698 : True := trivial
theorem hz.tw3898986977369639273 : True := trivial
theorem hz.tw3899449620052863000 : True := trivial
theorem hz.tw3951906589753420337 : True := trivial
theorem hz.tw4080519231424162902 : True := trivial
theorem hz.tw4093554545191146189 : True := trivial
theorem hz.tw4138045965966720184 : True := trivial
theorem hz.tw4190787229227503836 : True := trivial
theorem hz.tw4208748929840892513 : True := trivial
theorem hz.tw4358377979038717235 : True := trivial
theorem hz.tw4505789349587045655 : True := trivial
theorem hz.tw4583139713499339240 : True := trivial
theorem hz.tw4619940555183212403 : True := trivial
theorem hz.tw4812991067812546163 : True := trivial
theorem hz.tw4873708915946095883 : True := trivial
theorem hz.tw4942655502470056675 : True := trivial
theorem hz.tw4972263024247404512 : True := trivial
theorem hz.tw5017077206033542401 : True := trivial
theorem hz.tw5020742180405260704 : True := trivial
theorem hz.tw5037695400780231482 : True := trivial
theorem hz.tw5045519309234541295 : True := trivial
theorem hz.tw5067774323800722246 : True := trivial
theorem hz.tw5100741392266617667 : True := trivial
theorem hz.tw5336653931988815003 : True := trivial
theorem hz.tw5388030385305558027 : True := trivial
theorem hz.tw5399519033371756106 : True := trivial
theorem hz.tw5435981721702415064 : True := trivial
theorem hz.tw5648200747918470406 : True := trivial
theorem hz.tw5755766482698208309 : True := trivial
theorem hz.tw579471857598781380 : True := trivial
theorem hz.tw5902246032779567467 : True := trivial
theorem hz.tw5950420143918803629 : True := trivial
theorem hz.tw5957036672829414018 : True := trivial
theorem hz.tw6116000403522874337 : True := trivial
theorem hz.tw6145896997171424593 : True := trivial
theorem hz.tw619968515673842266 : True := trivial
theorem hz.tw623239353647989400 : True := trivial
theorem hz.tw6246659682678844718 : True := trivial
theorem hz.tw6397318739353258277 : True := trivial
theorem hz.tw641538193412625761 : True := trivial
theorem hz.tw6555005581738970673 : True := trivial
theorem hz.tw6609798009151831262 : True := trivial
theorem hz.tw6625619936139450121 : True := trivial
theorem hz.tw663588262400327805 : True := trivial
theorem hz.tw671735619439490739 : True := trivial
theorem hz.tw6769290065203369764 : True := trivial
theorem hz.tw6775177611216001576 : True := trivial
theorem hz.tw6877257032200561081 : True := trivial
theorem hz.tw6885745513561349377 : True := trivial
theorem hz.tw6927800948453198054 : True := trivial
theorem hz.tw6962059388526092823 : True := trivial
theorem hz.tw7000029786039592900 : True := trivial
theorem hz.tw7080895966440078938 : True := trivial
theorem hz.tw708771788626741050 : True := trivial
theorem hz.tw7089692412019083567 : True := trivial
theorem hz.tw7135791420323348266 : True := trivial
theorem hz.tw7144426590242864046 : True := trivial
theorem hz.tw7245896421289261381 : True := trivial
theorem hz.tw7314685479293046051 : True := trivial
theorem hz.tw7327444218935094981 : True := trivial
theorem hz.tw7464403497590151001 : True := trivial
theorem hz.tw7492105302162615363 : True := trivial
theorem hz.tw7554756350510983100 : True := trivial
theorem hz.tw7600713175842720174 : True := trivial
theorem hz.tw7607375641628440619 : True := trivial
theorem hz.tw7638952210217834065 : True := trivial
theorem hz.tw7645067403781508193 : True := trivial
theorem hz.tw7681478569436287920 : True := trivial
theorem hz.tw7789090625882113295 : True := trivial
theorem hz.tw7814979853567033528 : True := trivial
theorem hz.tw7844849375414614137 : True := trivial
theorem hz.tw7938678304694890436 : True := trivial
theorem hz.tw7965869007780304471 : True := trivial
theorem hz.tw8013884887973231837 : True := trivial
theorem hz.tw8055412184724411835 : True := trivial
theorem hz.tw8128481937914133346 : True := trivial
theorem hz.tw8291758277501425366 : True := trivial
theorem hz.tw837537110063020681 : True := trivial
theorem hz.tw8378013024205134695 : True := trivial
theorem hz.tw8415721915993084031 : True := trivial
theorem hz.tw8567375957506584466 : True := trivial
theorem hz.tw863570311346999124 : True := trivial
theorem hz.tw8710930970306232575 : True := trivial
theorem hz.tw8833721974828347106 : True := trivial
theorem hz.tw8872868679550325280 : True := trivial
theorem hz.tw9148394428182416380 : True := trivial
theorem hz.tw9245231912902801802 : True := trivial
theorem hz.tw9300640117773747035 : True := trivial
theorem hz.tw9419175026298041032 : True := trivial
theorem hz.tw9477400790228760594 : True := trivial
theorem hz.tw9482178763909547162 : True := trivial
theorem hz.tw958940354778021617 : True := trivial
theorem hz.tw9625048068777251112 : True := trivial
theorem hz.tw9729800063069342020 : True := trivial
theorem hz.tw9901891953547811869 : True := trivial
theorem hz.tw9958171366387719866 : True := trivial
set_option Elab.async true in
theorem hz : rowB.wellSaid = true → rowB.Holds := by
  intro said; w_on; k_head; (case hw => w_witness2); k_go
end TB0
end Mine

namespace Mine
section TBK
open PySem PySem.W PyProof.Rows PySem.Calls
/-- the text's own objects behind its top, by their addresses: those that law reaches -/
noncomputable def KK : Params → Frag := fun P => (nat_lit 2, boot_o_2 P) :: (nat_lit 3, hz.o_1_285 P) :: (nat_lit 15, hz.o_1_17 P) :: (nat_lit 17, hz.o_1_19 P) :: (nat_lit 18, hz.o_1_20 P) :: (nat_lit 20, hz.o_1_22 P) :: (nat_lit 21, hz.o_1_23 P) :: (nat_lit 29, hz.o_1_31 P) :: (nat_lit 31, hz.o_1_33 P) :: (nat_lit 32, hz.o_1_34 P) :: (nat_lit 34, hz.o_1_36 P) :: (nat_lit 35, hz.o_1_37 P) :: (nat_lit 36, hz.o_1_38 P) :: (nat_lit 43, hz.o_1_45 P) :: (nat_lit 45, hz.o_1_47 P) :: (nat_lit 46, hz.o_1_48 P) :: (nat_lit 48, hz.o_1_50 P) :: (nat_lit 49, hz.o_1_51 P) :: (nat_lit 50, hz.o_1_52 P) :: (nat_lit 51, hz.o_1_53 P) :: (nat_lit 52, hz.o_1_62 P) :: (nat_lit 55, hz.o_1_63 P) :: (nat_lit 62, hz.o_1_70 P) :: (nat_lit 64, hz.o_1_72 P) :: (nat_lit 65, hz.o_1_73 P) :: (nat_lit 67, hz.o_1_75 P) :: (nat_lit 68, hz.o_1_76 P) :: (nat_lit 69, hz.o_1_77 P) :: (nat_lit 71, hz.o_1_79 P) :: (nat_lit 72, hz.o_1_80 P) :: (nat_lit 74, hz.o_1_82 P) :: (nat_lit 75, hz.o_1_83 P) :: (nat_lit 76, hz.o_1_84 P) :: (nat_lit 78, hz.o_1_86 P) :: (nat_lit 79, hz.o_1_87 P) :: (nat_lit 81, hz.o_1_89 P) :: (nat_lit 82, hz.o_1_90 P) :: (nat_lit 83, hz.o_1_91 P) :: (nat_lit 84, hz.o_1_92 P) :: (nat_lit 85, hz.o_1_93 P) :: (nat_lit 88, hz.o_1_96 P) :: (nat_lit 90, hz.o_1_98 P) :: (nat_lit 91, hz.o_1_99 P) :: (nat_lit 93, hz.o_1_101 P) :: (nat_lit 94, hz.o_1_102 P) :: (nat_lit 95, hz.o_1_103 P) :: (nat_lit 97, hz.o_1_105 P) :: (nat_lit 98, hz.o_1_106 P) :: (nat_lit 100, hz.o_1_108 P) :: (nat_lit 101, hz.o_1_109 P) :: (nat_lit 102, hz.o_1_115 P) :: (nat_lit 104, hz.o_1_117 P) :: (nat_lit 105, hz.o_1_118 P) :: (nat_lit 107, hz.o_1_120 P) :: (nat_lit 108, hz.o_1_121 P) :: (nat_lit 109, hz.o_1_122 P) :: (nat_lit 111, hz.o_1_124 P) :: (nat_lit 112, hz.o_1_125 P) :: (nat_lit 114, hz.o_1_127 P) :: (nat_lit 115, hz.o_1_128 P) :: (nat_lit 116, hz.o_1_129 P) :: (nat_lit 118, hz.o_1_131 P) :: (nat_lit 119, hz.o_1_132 P) :: (nat_lit 121, hz.o_1_134 P) :: (nat_lit 122, hz.o_1_135 P) :: (nat_lit 123, hz.o_1_136 P) :: (nat_lit 125, hz.o_1_138 P) :: (nat_lit 126, hz.o_1_139 P) :: (nat_lit 128, hz.o_1_141 P) :: (nat_lit 129, hz.o_1_142 P) :: (nat_lit 130, hz.o_1_143 P) :: (nat_lit 132, hz.o_1_145 P) :: (nat_lit 133, hz.o_1_146 P) :: (nat_lit 135, hz.o_1_148 P) :: (nat_lit 136, hz.o_1_149 P) :: (nat_lit 137, hz.o_1_150 P) :: (nat_lit 139, hz.o_1_152 P) :: (nat_lit 140, hz.o_1_153 P) :: (nat_lit 142, hz.o_1_155 P) :: (nat_lit 143, hz.o_1_156 P) :: (nat_lit 151, hz.o_1_169 P) :: (nat_lit 152, hz.o_1_170 P) :: (nat_lit 155, hz.o_1_173 P) :: (nat_lit 156, hz.o_1_174 P) :: (nat_lit 157, hz.o_1_175 P) :: (nat_lit 159, hz.o_1_177 P) :: (nat_lit 160, hz.o_1_178 P) :: (nat_lit 162, hz.o_1_180 P) :: (nat_lit 163, hz.o_1_181 P) :: (nat_lit 164, hz.o_1_182 P) :: (nat_lit 165, hz.o_1_183 P) :: (nat_lit 166, hz.o_1_184 P) :: (nat_lit 167, hz.o_1_185 P) :: (nat_lit 168, hz.o_1_186 P) :: (nat_lit 171, hz.o_1_189 P) :: (nat_lit 173, hz.o_1_191 P) :: (nat_lit 174, hz.o_1_192 P) :: (nat_lit 176, hz.o_1_194 P) :: (nat_lit 177, hz.o_1_195 P) :: (nat_lit 178, hz.o_1_196 P) :: (nat_lit 180, hz.o_1_198 P) :: (nat_lit 181, hz.o_1_199 P) :: (nat_lit 183, hz.o_1_201 P) :: (nat_lit 184, hz.o_1_202 P) :: (nat_lit 185, hz.o_1_203 P) :: (nat_lit 187, hz.o_1_205 P) :: (nat_lit 188, hz.o_1_206 P) :: (nat_lit 190, hz.o_1_208 P) :: (nat_lit 191, hz.o_1_209 P) :: (nat_lit 192, hz.o_1_210 P) :: (nat_lit 194, hz.o_1_212 P) :: (nat_lit 195, hz.o_1_213 P) :: (nat_lit 197, hz.o_1_215 P) :: (nat_lit 198, hz.o_1_216 P) :: (nat_lit 199, hz.o_1_222 P) :: (nat_lit 201, hz.o_1_224 P) :: (nat_lit 202, hz.o_1_225 P) :: (nat_lit 204, hz.o_1_227 P) :: (nat_lit 205, hz.o_1_228 P) :: (nat_lit 206, hz.o_1_229 P) :: (nat_lit 208, hz.o_1_231 P) :: (nat_lit 209, hz.o_1_232 P) :: (nat_lit 211, hz.o_1_234 P) :: (nat_lit 212, hz.o_1_235 P) :: (nat_lit 213, hz.o_1_236 P) :: (nat_lit 215, hz.o_1_238 P) :: (nat_lit 216, hz.o_1_239 P) :: (nat_lit 218, hz.o_1_241 P) :: (nat_lit 219, hz.o_1_242 P) :: (nat_lit 220, hz.o_1_243 P) :: (nat_lit 222, hz.o_1_245 P) :: (nat_lit 223, hz.o_1_246 P) :: (nat_lit 225, hz.o_1_248 P) :: (nat_lit 226, hz.o_1_249 P) :: (nat_lit 227, hz.o_1_250 P) :: (nat_lit 229, hz.o_1_252 P) :: (nat_lit 230, hz.o_1_253 P) :: (nat_lit 232, hz.o_1_255 P) :: (nat_lit 233, hz.o_1_262 P) :: (nat_lit 237, hz.o_1_266 P) :: (nat_lit 239, hz.o_1_268 P) :: (nat_lit 240, hz.o_1_269 P) :: (nat_lit 242, hz.o_1_271 P) :: (nat_lit 243, hz.o_1_272 P) :: (nat_lit 244, hz.o_1_273 P) :: (nat_lit 246, hz.o_1_275 P) :: (nat_lit 247, hz.o_1_276 P) :: (nat_lit 249, hz.o_1_278 P) :: (nat_lit 250, hz.o_1_279 P) :: (nat_lit 251, hz.o_1_287 P) :: (nat_lit 253, hz.o_1_289 P) :: (nat_lit 254, hz.o_1_290 P) :: (nat_lit 256, hz.o_1_292 P) :: (nat_lit 257, hz.o_1_293 P) :: (nat_lit 258, hz.o_1_294 P) :: (nat_lit 260, hz.o_1_296 P) :: (nat_lit 261, hz.o_1_297 P) :: (nat_lit 263, hz.o_1_299 P) :: (nat_lit 264, hz.o_1_300 P) :: (nat_lit 265, hz.o_1_301 P) :: (nat_lit 267, hz.o_1_303 P) :: (nat_lit 268, hz.o_1_304 P) :: (nat_lit 270, hz.o_1_306 P) :: (nat_lit 271, hz.o_1_307 P) :: (nat_lit 272, hz.o_1_308 P) :: (nat_lit 274, hz.o_1_310 P) :: (nat_lit 275, hz.o_1_311 P) :: (nat_lit 277, hz.o_1_313 P) :: (nat_lit 278, hz.o_1_314 P) :: (nat_lit 279, hz.o_1_315 P) :: (nat_lit 282, hz.o_1_318 P) :: (nat_lit 283, hz.o_1_319 P) :: (nat_lit 284, hz.o_1_320 P) :: (nat_lit 287, hz.o_1_323 P) :: (nat_lit 288, hz.o_1_324 P) :: []
end TBK
end Mine

namespace Mine
section TB1
open PySem PySem.W PyProof.Rows PySem.Calls
set_option maxRecDepth 100000
set_option maxHeartbeats 400000
abbrev TopF (mean : ExcName → Option Value) (mg mb : Str → Option Value) (h : Heap) : Prop :=
  Top hz.view_1_2 (looseW hz.view_1_2 [Str.ofString "normpath_path", Str.ofString "normpath_posixpath"]) mean mg mb h

/-- what the top laid: it stands in b₀ -/
structure Wd (w : World) (b₀ : Heap) (mean : ExcName → Option Value) (mg mb : Str → Option Value) : Prop where
  K : (KK w.params).In b₀
  T : TopF mean mg mb b₀

/-- room for n frames more -/
structure Room (A : Around) (n : Nat) : Prop where
  hnd : A.handled = none
  dep : A.depth + n ≤ 900
  uni : A.units + 20 * n ≤ 9000

abbrev AC (n : Nat) : Around := { handled := none, depth := 900 - n, frames := none, guards := none, units := 9000 - 20 * n }

theorem Room.wp {M : Model} {A : Around} {n : Nat} {α : Type} {t : Sem α} {Q : α → Shared → Prop} {E : Value → Shared → Prop} {s : Shared} (R : Room A n)
    (h : wpAny M (AC n) t Q E s) : wpAny M A t Q E s := fun Γ p hΓ => by
  obtain ⟨h1, h2, h3, h4, h5⟩ := hΓ
  refine h Γ p ⟨h1.trans R.hnd, ?_, ?_, ?_, ?_⟩
  · have := R.dep; show _ ≤ 900 - n; omega
  · intro l hl; cases hl
  · intro l hl; cases hl
  · have := R.uni; show _ ≤ 9000 - 20 * n; omega

/-- all that stood but the addresses X stands yet -/
def Kept (X : List Addr) (h h' : Heap) : Prop := ∀ b o, b ∉ X → h.get? b = some o → h'.get? b = some o
theorem Kept.refl {X : List Addr} {h : Heap} : Kept X h h := fun _ _ _ e => e
theorem Kept.trans {X : List Addr} {h h' h'' : Heap} (a : Kept X h h') (b : Kept X h' h'') : Kept X h h'' := fun c o n e => b c o n (a c o n e)
theorem Kept.hide {X : List Addr} {h h' : Heap} (a : ∀ b o, (hideAll h X).get? b = some o → h'.get? b = some o) : Kept X h h' := fun b o n e => a b o (hideAll_get X e n)

section
variable {w : World} {b₀ : Heap} {mean : ExcName → Option Value} {mg mb : Str → Option Value} {A : Around} {E : Value → Shared → Prop} {s : Shared}

theorem enter {name qual : Str} {params : Arguments} {body : List Stmt} {scope : Scope} {dV kV doc pm cdv ct oc : Value} {an od : Option Addr} {osl : Array (Option Value)} {f : Addr} {args : List Value} {kw : List (Str × Value)} {binds : List (Str × Value)} {Q : Value → Shared → Prop}
    (X : List Addr) (W : Wd w b₀ mean mg mb) (st : b₀.StaysIn s.heap) (hX : ∀ x ∈ X, b₀.get? x = none)
    (ho : (KK w.params).lookup f = some ⟨oc, od, .func (fnOf name qual params body scope dV kV doc pm an cdv ct), osl⟩) (hcd : codeIn (KK w.params) cdv qual = true) (hroom : A.depth < recursionLimit)
    (hbind : BindsTo s (fnOf name qual params body scope dV kV doc pm an cdv ct) ⟨args, kw⟩ binds) (hloc : ∀ y ∈ binds, scope.names.lookup y.1 = some .local)
    (h : ∀ g L h₁, g = hideAll s.heap X → L = s.heap.objs.size → Fr g L h₁ (fun y => binds.reverse.lookup y) → (∀ b o, s.heap.get? b = some o → h₁.get? b = some o) → (KK w.params).In g → TopF mean mg mb g →
      wpAny (model PySem.Challenge.rw_ik0148_01.row.prog w) (A.deeper (envOf qual scope L f cdv)) (execs body (envOf qual scope L f cdv))
        (fun fl s' => Q (match fl with | .ret v => v | _ => .none) s') (fun _ _ => False) { s with heap := h₁, toks := s.toks + binds.length })
    (hcell : ∀ x ∈ scope.names, x.2 ≠ .cell) (hco : scope.isCoroutine = false) (hgen : scope.isGenerator = false) (hk : scope.kind = .function) :
    wpAny (model PySem.Challenge.rw_ik0148_01.row.prog w) A (call (.ref f) args kw) Q E s := by
  have hg : b₀.StaysIn (hideAll s.heap X) := fun b o e => hideAll_get X (st b o e) fun hm => by rw [hX b hm] at e; cases e
  refine wpAny_call (codeAny_call_def (fd := fnOf name qual params body scope dV kV doc pm an cdv ct) (body := body) (binds := binds) hroom (W.K.keeps st _ _ ho) rfl (W.T.nolimit.keeps st) (codeRec_of (W.K.keeps st) hcd) rfl hbind hcell hloc (fun h₁ hns hk₁ => ?_) hco hgen hk)
  refine wpAny_mono (h _ s.heap.objs.size h₁ rfl rfl ⟨hns, fun b o e => hk₁ b o (of_hideAll X e), Nat.le_of_eq (hideAll_size _ _)⟩ hk₁ (W.K.keeps hg) (W.T.keeps hg)) (fun fl s' hl => hl) fun _ _ y => y.elim
end

theorem fr_stay {g h h' : Heap} {L : Addr} {m : Str → Option Value} (F : Fr g L h m) (k : h.StaysIn h') : Fr g L h' m := ⟨F.ns.keeps k, fun b o e => k _ _ (F.keep b o e), F.above⟩
theorem news_stay {g h h' : Heap} {L : Addr} {news : List (Addr × Obj)} (N : News g L h news) (k : h.StaysIn h') : News g L h' news := fun p hp => ⟨k _ _ (N p hp).1, (N p hp).2⟩
theorem fr_kept {g h h' : Heap} {L x : Addr} {m : Str → Option Value} {o : Obj} {news : List (Addr × Obj)} (F : Fr g L h m) (N : News g L h news) (hm : (x, o) ∈ news) (k : Kept [x] h h') : Fr g L h' m := by
  obtain ⟨oL, es, ep, hL, r⟩ := F.ns
  refine ⟨⟨oL, es, ep, k L oL (fun q => ?_) hL, r⟩, fun b ob e => k b ob (fun q => ?_) (F.keep b ob e), F.above⟩
  · exact (N _ hm).2.1 (List.mem_singleton.mp q).symm
  · rw [List.mem_singleton.mp q, (N _ hm).2.2] at e; cases e
noncomputable def AllNe (d : Addr) : List (Addr × Obj) → Prop
  | [] => True
  | p :: r => @Ne Nat p.1 d ∧ AllNe d r
theorem allNe_of {d : Addr} : ∀ {l : List (Addr × Obj)}, (∀ p ∈ l, p.1 ≠ d) → AllNe d l
  | [], _ => trivial
  | p :: _, h => ⟨h p (.head _), allNe_of fun q hq => h q (.tail _ hq)⟩
theorem allNe_mem {d : Addr} {l : List (Addr × Obj)} (h : AllNe d l) : ∀ p ∈ l, p.1 ≠ d := by
  induction l with
  | nil => intro p hp; cases hp
  | cons a r ih =>
    intro p hp
    rcases List.mem_cons.mp hp with e | hp
    · rw [e]; exact h.1
    · exact ih h.2 p hp
theorem allNe_fresh {g h : Heap} {L D : Addr} {news : List (Addr × Obj)} (N : News g L h news) (hD : h.get? D = none) : AllNe D news := allNe_of fun p hp q => by
  have := (N p hp).1
  rw [q, hD] at this; cases this
theorem news_add {g h h' : Heap} {L D : Addr} {m : Str → Option Value} {o : Obj} {news : List (Addr × Obj)} (F : Fr g L h m) (N : News g L h news) (k : h.StaysIn h') (hD : h.get? D = none) (e : h'.get? D = some o) : News g L h' ((D, o) :: news) := by
  intro q hq
  rcases List.mem_cons.mp hq with rfl | hq
  · refine ⟨e, fun q => ?_, ?_⟩
    · obtain ⟨oL, es, ep, hL, r⟩ := F.ns
      rw [← q, hD] at hL; cases hL
    · cases x : g.get? D with
      | none => rfl
      | some o => have := F.keep _ _ x; rw [hD] at this; cases this
  · exact news_stay N k q hq
/-- a name that is known may stand in front -/
theorem fr_pin {g h : Heap} {L : Addr} {m : Str → Option Value} (F : Fr g L h m) (x : Str) {v : Value} (e : m x = some v) : Fr g L h (fun y => if y = x then some v else m y) := by
  have : (fun y => if y = x then some v else m y) = m := by
    funext y
    by_cases hy : y = x
    · subst hy; simp [e]
    · simp [hy]
  rw [this]; exact F

/-- a place where the walk is to stop -/
def Stop (P : Prop) : Prop := P
theorem Stop.here {P : Prop} (h : P) : Stop P := h
theorem Stop.intro {P : Prop} (h : Stop P) : P := h
section
variable {prog : Program} {w : World} {A : Around} {s : Shared} {env : Env} {test : PySem.Expr} {body orelse : List Stmt} {Q : Flow → Shared → Prop}
abbrev no : Value → Shared → Prop := fun _ _ => False
theorem all5 {α : Type} {P : α → Prop} {a b c d e : α} (h1 : P a) (h2 : P b) (h3 : P c) (h4 : P d) (h5 : P e) (x : α) (hx : x ∈ [a, b, c, d, e]) : P x := by
  simp only [List.mem_cons, List.not_mem_nil, or_false] at hx
  rcases hx with rfl | rfl | rfl | rfl | rfl <;> assumption
theorem all7 {α : Type} {P : α → Prop} {a b c d e f g : α} (h1 : P a) (h2 : P b) (h3 : P c) (h4 : P d) (h5 : P e) (h6 : P f) (h7 : P g) (x : α) (hx : x ∈ [a, b, c, d, e, f, g]) : P x := by
  simp only [List.mem_cons, List.not_mem_nil, or_false] at hx
  rcases hx with rfl | rfl | rfl | rfl | rfl | rfl | rfl <;> assumption
theorem and6 {a b c d e f p : Prop} (h : a ∧ b ∧ c ∧ d ∧ e ∧ f) (k : a → b → c → d → e → f → p) : p := k h.1 h.2.1 h.2.2.1 h.2.2.2.1 h.2.2.2.2.1 h.2.2.2.2.2
theorem and8 {a b c d e f g i p : Prop} (h : a ∧ b ∧ c ∧ d ∧ e ∧ f ∧ g ∧ i) (k : a → b → c → d → e → f → g → i → p) : p := k h.1 h.2.1 h.2.2.1 h.2.2.2.1 h.2.2.2.2.1 h.2.2.2.2.2.1 h.2.2.2.2.2.2.1 h.2.2.2.2.2.2.2
theorem and9 {a b c d e f g i j p : Prop} (h : a ∧ b ∧ c ∧ d ∧ e ∧ f ∧ g ∧ i ∧ j) (k : a → b → c → d → e → f → g → i → j → p) : p := k h.1 h.2.1 h.2.2.1 h.2.2.2.1 h.2.2.2.2.1 h.2.2.2.2.2.1 h.2.2.2.2.2.2.1 h.2.2.2.2.2.2.2.1 h.2.2.2.2.2.2.2.2
/-- what is wanted behind a piece of code, hidden behind a name: the steps' terms stay small -/
theorem hideQ {α : Type} {M : Model} {A : Around} {E : Value → Shared → Prop} {s : Shared} {c : Sem α} {Q : α → Shared → Prop} (h : ∀ QQ : α → Shared → Prop, (∀ f s, Q f s → QQ f s) → wpAny M A c QQ E s) : wpAny M A c Q E s := h Q fun _ _ h => h
theorem hideW {α : Type} {M : Model} {A : Around} {E : Value → Shared → Prop} {s : Shared} {c : Sem Bool} {d e : Sem α} {P Q : α → Shared → Prop}
    (h : ∀ PP : α → Shared → Prop, (∀ f s, P f s → PP f s) → wpAny M A c (fun b s₂ => if b = true then wpAny M A d PP E s₂ else wpAny M A e Q E s₂) E s) :
    wpAny M A c (fun b s₂ => if b = true then wpAny M A d P E s₂ else wpAny M A e Q E s₂) E s := h P fun _ _ h => h
theorem hideF {α β : Type} {M : Model} {A : Around} {E : Value → Shared → Prop} {s : Shared} {c : Sem β} {d : Sem α} {P : α → Shared → Prop}
    (h : ∀ PP : α → Shared → Prop, (∀ f s, P f s → PP f s) → wpAny M A c (fun _ s₂ => wpAny M A d PP E s₂) E s) :
    wpAny M A c (fun _ s₂ => wpAny M A d P E s₂) E s := h P fun _ _ h => h
theorem hideC {α β : Type} {M : Model} {A : Around} {E : Value → Shared → Prop} {s : Shared} {c : Sem α} {d : Sem Bool} {e : Sem β} {R1 : β → Shared → Prop} {R0 : Shared → Prop}
    (h : ∀ (P1 : β → Shared → Prop) (P0 : Shared → Prop), (∀ x s, R1 x s → P1 x s) → (∀ s, R0 s → P0 s) → wpAny M A c (fun _ s₂ => wpAny M A d (fun ok s₃ => if ok = true then wpAny M A e P1 E s₃ else P0 s₃) E s₂) E s) :
    wpAny M A c (fun _ s₂ => wpAny M A d (fun ok s₃ => if ok = true then wpAny M A e R1 E s₃ else R0 s₃) E s₂) E s := h R1 R0 (fun _ _ h => h) fun _ h => h
/-- a while by what holds of it -/
theorem while_inv {pos : Pos} (I : Nat → Shared → Prop) (n : Nat) (h : I n s)
    (turn : ∀ n s, I n s → wpAny (model prog w) A (isTrue test env (eval test env)) (fun b s₂ => if b = true then wpAny (model prog w) A (execs body env) (fun f s₃ => match f with
        | .ret v => Q (.ret v) s₃
        | .brk => Q .next s₃
        | _ => Stop (∃ k, k < n ∧ I k s₃)) no s₂ else wpAny (model prog w) A (execs orelse env) Q no s₂) no s) :
    wpAny (model prog w) A (exec (.While test body orelse pos) env) Q no s := by
  refine wpAny_While (codeAny_loop rfl I (fun n s hI => ?_) n h)
  rw [Around.under_of_weight (by rfl)]
  show wpAny _ A ((whileTurn test body orelse env).onRaise (fun x => do noteFrame x env; theTreesLotGoes x)) _ _ s
  refine wpAny_onRaise (wpAny_mono (Q := fun fin s' => match fin with | .done f => Q f s' | .again c' => c' = .whileLoop test body orelse env ∧ ∃ m, m < n ∧ I m s') (E := no) ?_ (fun fin s' h => ?_) (fun _ _ h => h.elim))
  · simp only [whileTurn]
    refine wpAny_bind (wpAny_mono (turn n s hI) (fun b s₂ h₂ => ?_) fun _ _ h => h)
    cases b with
    | false =>
      simp only [Bool.false_eq_true, if_false] at h₂ ⊢
      exact wpAny_bind (wpAny_mono h₂ (fun f s₃ h₄ => wpAny_pure h₄) fun _ _ h => h)
    | true =>
      simp only [if_true] at h₂ ⊢
      refine wpAny_bind (wpAny_mono h₂ (fun f s₃ h₄ => ?_) fun _ _ h => h)
      cases f with
      | next => exact wpAny_pure ⟨rfl, h₄⟩
      | cont => exact wpAny_pure ⟨rfl, h₄⟩
      | brk => exact wpAny_pure h₄
      | ret v => exact wpAny_pure h₄
  · cases fin with
    | done f => exact h
    | again c' => exact h
end
end TB1
end Mine

namespace Mine
section TC0
open PySem PySem.W PyProof.Rows PySem.Calls
set_option maxRecDepth 100000
set_option maxHeartbeats 8000000
section
variable {prog : Program} {w : World} {A : Around} {E : Value → Shared → Prop} {s : Shared}
theorem kind_isub : builtinKind "issubclass.nested" = none := by decide +kernel
theorem plain_isub : plainId "issubclass.nested" = true := by decide +kernel
theorem args_isub (a b c : Value) : argsOk "issubclass.nested" ⟨[a, b, c], []⟩ := by unfold argsOk; kernel_rfl

theorem isub_nested_str {dep : Int} {tk : Tok} {Q : Fin → Shared → Prop} (hq : Q (.done (.ret (.bool true))) s) :
    wpAny (model prog w) A (Builtin.«issubclass.nested» ⟨[.type "str", .type "str", .int dep tk], []⟩) Q E s := by
  have hm : typeOf (.type "str") = pure (.type "type") := by kernel_rfl
  have hself := isSubtype_str_str
  repeat (any_goals (first | assumption | (rw [hm]) | (rw [hself]) | wp_step))
theorem isub_nested_tuple {tp : Addr} {dep : Int} {tk : Tok} {c : Value} {Q : Fin → Shared → Prop} (hd : dep = 0) (htp : s.heap.get? tp = some { cls := .type "tuple", data := .seq #[.type "str", c] })
    (hq : Q (.done (.ret (.bool true))) s) :
    wpAny (model prog w) A (Builtin.«issubclass.nested» ⟨[.type "str", .ref tp, .int dep tk], []⟩) Q E s := by
  subst hd
  obtain ⟨h, g, d, t, os⟩ := s
  have hT2 : (⟨h, g, d, t, os⟩ : Shared).TypeIs (.ref tp) "tuple" := ⟨_, htp, rfl⟩
  have f1 := F.isi_sub_tuple
  have meet : ∀ (dep : Int) (tk : Tok), Meets (Builtin.«issubclass.nested» ⟨[.type "str", .type "str", .int dep tk], []⟩) (fun _ R s => R (.ok (.ret (.bool true))) s) := fun _ _ _ _ _ _ _ hs => isub_nested_str hs
  repeat (any_goals (first | assumption | (refine call_function_meets kind_isub plain_isub F.entry_issubclass_nested (args_isub _ _ _) (meet _ _) ?_; show wpAny _ _ _ _ _ _) | wp_step))
theorem isub_tuple {tp : Addr} {c : Value} {Q : Value → Shared → Prop} (htp : s.heap.get? tp = some { cls := .type "tuple", data := .seq #[.type "str", c] })
    (hq : Q (.bool true) s) : wpAny (model prog w) A (call (.builtin "issubclass") [.type "str", .ref tp]) Q E s :=
  call_issubclass (S := fun _ R s' => s'.heap.get? tp = some { cls := .type "tuple", data := .seq #[.type "str", c] } ∧ R (.ok (.ret (.bool true))) s')
    (fun _ _ _ _ _ hs => issubclass_outer (isub_nested_tuple rfl hs.1 hs.2)) ⟨htp, hq⟩
end
end TC0
end Mine

namespace Mine
section TC1
open PySem PySem.W PyProof.Rows PySem.Calls
set_option maxRecDepth 100000
set_option maxHeartbeats 8000000
local macro_rules | `(tactic| walk_at "call builtin:issubclass") => `(tactic| (k_here; k_dflt (refine' isub_tuple (News.get ?k1 ?k2) ?_; (case k1 => k_asm); (case k2 => k_mem))))
section
variable {w : World} {b₀ : Heap} {mean : ExcName → Option Value} {mg mb : Str → Option Value} {A : Around} {E : Value → Shared → Prop} {s : Shared}

set_option pp.deepTerms false
set_option pp.deepTerms.threshold 4
theorem fspath_ct {p : Str} {t : Tok} {Q : Value → Shared → Prop} (W : Wd w b₀ mean mg mb) (st : b₀.StaysIn s.heap) (R : Room A 2)
    (ret : ∀ h' tk', s.heap.StaysIn h' → Q (.str p t) { s with heap := h', toks := tk' }) :
    wpAny (model PySem.Challenge.rw_ik0148_01.row.prog w) A (call (.ref 101) [.str p t]) Q E s := by
  refine R.wp ?_
  have KX := W.K
  revert KX
  k_fill
  intro KX
  refine' enter (binds := [(Str.ofString "path", .str p t)]) [] W st (fun x hx => nomatch hx) ?ho ?hcd ?hroom ?hbind ?hloc ?_ ?hcell ?hco ?hgen ?hk
  case ho => k_is
  case hcd => k_is
  case hroom => decide
  case hbind => exact BindsTo.of_eq rfl
  case hloc => exact locs rfl
  case hcell => decide
  case hco => rfl
  case hgen => rfl
  case hk => rfl
  intro g L h₁ hg hL F hk₁ KG TG
  clear KX
  have N : News g L h₁ [] := News.nil
  k_steps
  all_goals (rename Fr _ _ _ _ => F')
  all_goals exact ret _ _ (fun b o e => F'.keep b o (hg ▸ e))
end
end TC1
end Mine

namespace Mine
section TL1
open PySem PySem.W PyProof.Rows PySem.Calls
set_option maxRecDepth 100000
set_option maxHeartbeats 8000000
open PySem.AutoSeq1 (wpAny_loadPart')
/-- a plain item: an int or a text -/
abbrev Kd := Int ⊕ Str
def skel : Value → Kd
  | .int i _ => .inl i
  | .str x _ => .inr x
  | _ => .inl 0
def klt : Kd → Kd → Bool
  | .inl i, .inl j => decide (i < j)
  | .inr x, .inr y => decide (x.cps.toList < y.cps.toList)
  | _, _ => false
noncomputable def lexlt : List Kd → List Kd → Bool
  | a :: as, b :: bs => if a = b then lexlt as bs else klt a b
  | [], _ :: _ => true
  | _, [] => false
/-- two items of one kind -/
def Pair (x y : Value) : Prop := (∃ i t j u, x = .int i t ∧ y = .int j u) ∨ ∃ a t b u, x = .str a t ∧ y = .str b u

section
variable {prog : Program} {w : World} {A : Around} {E : Value → Shared → Prop} {s : Shared}
theorem pair_eq {x y : Value} {Q : Bool → Shared → Prop} (p : Pair x y) (h : Q (decide (skel x = skel y)) s) : wpAny (model prog w) A (eqBool x y) Q E s := by
  rcases p with ⟨i, t, j, u, rfl, rfl⟩ | ⟨a, t, b, u, rfl, rfl⟩
  · refine wpAny_eqBool_int ?_
    have e : (i == j) = decide (skel (.int i t) = skel (.int j u)) := by simp only [skel, Sum.inl.injEq]; rfl
    rw [e]; exact h
  · refine wpAny_eqBool_str ?_
    have e : decide (a = b) = decide (skel (.str a t) = skel (.str b u)) := by simp only [skel, Sum.inr.injEq]
    rw [e]; exact h
theorem pair_lt {x y : Value} {Q : Value → Shared → Prop} (p : Pair x y) (h : Q (.bool (klt (skel x) (skel y))) s) : wpAny (model prog w) A (richCompare .Lt x y) Q E s := by
  rcases p with ⟨i, t, j, u, rfl, rfl⟩ | ⟨a, t, b, u, rfl, rfl⟩
  · exact wpAny_lt_int h
  · exact PyProof.Rows.lt_str h
end

theorem plain_loop : plainId "list.__eq__.loop" = true := by decide +kernel
theorem entry_loop : entryFor table "list.__eq__.loop" = some Builtin.«list.__eq__.loop» := entryFor_of_fast (by kernel_rfl)

theorem lt_loop (l b : Addr) (xs ys : Array Value) (n n2 : Nat) (hsz : xs.size = ys.size) (hp : ∀ j (h1 : j < xs.size) (h2 : j < ys.size), Pair xs[j] ys[j]) (k : Nat) :
    ∀ i : Nat, xs.size - i = k → Meets (Builtin.«list.__eq__.loop» ⟨[.ref l, .ref b, rawInt i, rawInt 0], []⟩)
      (fun A R s => s.heap.get? l = some (listOf xs n) ∧ s.heap.get? b = some (listOf ys n2) ∧
        R (.ok (.ret (.bool (lexlt ((xs.toList.drop i).map skel) ((ys.toList.drop i).map skel))))) s) := by
  induction k with
  | zero =>
    intro i hk prog w A R s h
    obtain ⟨hp, g, d, tk, os⟩ := s; obtain ⟨hl, hb, h⟩ := h
    wp_walk using wpAny_loadPart' hl, wpAny_loadPart' hb
    have hi1 : xs[((i : Nat) : Int).toNat]? = none := by simp; omega
    have hi2 : ys[((i : Nat) : Int).toNat]? = none := by simp; omega
    have hd : xs.toList.drop i = [] := by simp; omega
    have hd2 : ys.toList.drop i = [] := by simp; omega
    rw [hd, hd2] at h
    rw [hi1, hi2]
    wp_walk using wpAny_loadPart' hl, wpAny_loadPart' hb
    show R (.ok (.ret (.bool (decide (xs.size < ys.size))))) _
    rw [hsz]
    simpa [lexlt] using h
  | succ k ih =>
    intro i hk prog w A R s h
    obtain ⟨hp', g, d, tk, os⟩ := s; obtain ⟨hl, hb, h⟩ := h
    wp_walk using wpAny_loadPart' hl, wpAny_loadPart' hb
    have hlt : i < xs.size := by omega
    have hlt2 : i < ys.size := by omega
    have hi1 : xs[((i : Nat) : Int).toNat]? = some xs[i] := by simp [hlt]
    have hi2 : ys[((i : Nat) : Int).toNat]? = some ys[i] := by simp [hlt2]
    have hd : xs.toList.drop i = xs[i] :: xs.toList.drop (i + 1) := by simp [List.drop_eq_getElem_cons, hlt]
    have hd2 : ys.toList.drop i = ys[i] :: ys.toList.drop (i + 1) := by simp [List.drop_eq_getElem_cons, hlt2]
    have hc : ((i : Int) + 1) = ((i + 1 : Nat) : Int) := by push_cast; rfl
    rw [hd, hd2, List.map_cons, List.map_cons, lexlt] at h
    rw [hi1, hi2]
    refine wpAny_bind (pair_eq (hp i hlt hlt2) ?_)
    by_cases hb' : skel xs[i] = skel ys[i]
    · rw [if_pos hb'] at h
      rw [decide_eq_true hb']
      wp_walk
      rw [hc]
      exact ⟨plainId_quiet plain_loop _, codeAny_builtin entry_loop (by
        rw [Around.under_plainId plain_loop _]
        exact ih (i + 1) (by omega) prog w A R _ ⟨hl, hb, h⟩)⟩
    · rw [if_neg hb'] at h
      rw [decide_eq_false hb']
      wp_walk using wpAny_loadPart' hl, wpAny_loadPart' hb
      rw [hi1, hi2]
      dsimp only
      refine wpAny_bind (pair_lt (hp i hlt hlt2) ?_)
      exact wpAny_pure h

theorem list_lt_meets (l b : Addr) (xs ys : Array Value) (n n2 : Nat) (hsz : xs.size = ys.size) (hp : ∀ j (h1 : j < xs.size) (h2 : j < ys.size), Pair xs[j] ys[j]) :
    Meets (Builtin.«list.__lt__» ⟨[.ref l, .ref b], []⟩)
      (fun A R s => s.heap.get? l = some (listOf xs n) ∧ s.heap.get? b = some (listOf ys n2) ∧ R (.ok (.ret (.bool (lexlt (xs.toList.map skel) (ys.toList.map skel))))) s) := by
  intro prog w A R s h
  obtain ⟨hp', g, d, tk, os⟩ := s; obtain ⟨hl, hb, h⟩ := h
  have f3 := AutoSeq1.sub_list_list
  wp_walk using wpAny_loadPart' hl, wpAny_loadPart' hb
  exact ⟨plainId_quiet plain_loop _, codeAny_builtin entry_loop (by
    rw [Around.under_plainId plain_loop _]
    exact lt_loop l b xs ys n n2 hsz hp _ 0 rfl prog w A R _ ⟨hl, hb, by simpa using h⟩)⟩

section
variable {prog : Program} {w : World} {A : Around} {E : Value → Shared → Prop} {s : Shared}
theorem list_lt {l b : Addr} {xs ys : Array Value} {n n2 : Nat} {Q : Value → Shared → Prop} (hu : A.units < cLine) (hl : s.heap.get? l = some (listOf xs n)) (hb : s.heap.get? b = some (listOf ys n2))
    (hsz : xs.size = ys.size) (hp : ∀ j (h1 : j < xs.size) (h2 : j < ys.size), Pair xs[j] ys[j])
    (h : Q (.bool (lexlt (xs.toList.map skel) (ys.toList.map skel))) s) : wpAny (model prog w) A (richCompare .Lt (.ref l) (.ref b)) Q E s := by
  have tl : s.TypeIs (.ref l) "list" := ⟨_, hl, rfl⟩
  have tb : s.TypeIs (.ref b) "list" := ⟨_, hb, rfl⟩
  refine wpAny_richCompare_same_room tl tb F.slot_list_lt (call_meets F.slot_list_lt tl F.entry_list_lt (F.args_list_lt_2 _ _) (list_lt_meets l b xs ys n n2 hsz hp) ⟨hl, hb, ?_⟩) hu
  exact ⟨(by intro e; cases e), h⟩
end
end TL1
end Mine

namespace Mine
section TL2
open PySem PySem.W PyProof.Rows PySem.Calls
set_option maxRecDepth 100000
set_option maxHeartbeats 8000000
abbrev Key := Int × Str
def Item (h : Heap) (a : Addr) (k : Key) : Prop := ∃ t t' n, h.get? a = some (listOf #[.int k.1 t, .str k.2 t'] n)
abbrev refs (as : List Addr) : Array Value := (as.map Value.ref).toArray
def keylt (a b : Key) : Bool := if a.1 = b.1 then (if a.2 = b.2 then false else decide (a.2.cps.toList < b.2.cps.toList)) else decide (a.1 < b.1)
theorem Item.keeps {h h' : Heap} {a : Addr} {k : Key} (i : Item h a k) (hk : ∀ o, h.get? a = some o → h'.get? a = some o) : Item h' a k := by
  obtain ⟨t, t', n, e⟩ := i
  exact ⟨t, t', n, hk _ e⟩

section
variable {prog : Program} {w : World} {A : Around} {E : Value → Shared → Prop} {s : Shared} {h₀ : Heap} {L D : Addr} {m : Str → Option Value} {news news' : List (Addr × Obj)} {as : List Addr} {n : Nat} {k : Int} {t : Tok}

theorem item_lt {a b : Addr} {ka kb : Key} {Q : Value → Shared → Prop} (hu : A.units < cLine) (ha : Item s.heap a ka) (hb : Item s.heap b kb) (h : Q (.bool (keylt ka kb)) s) :
    wpAny (model prog w) A (compareOp .Lt (.ref a) (.ref b)) Q E s := by
  obtain ⟨t1, t2, n1, e1⟩ := ha
  obtain ⟨u1, u2, n2, e2⟩ := hb
  refine cmp_ofLt (list_lt hu e1 e2 rfl (fun j h1 h2 => ?_) ?_)
  · match j, h1 with
    | 0, _ => exact .inl ⟨_, _, _, _, rfl, rfl⟩
    | 1, _ => exact .inr ⟨_, _, _, _, rfl, rfl⟩
  · have e : lexlt (#[Value.int ka.1 t1, Value.str ka.2 t2].toList.map skel) (#[Value.int kb.1 u1, Value.str kb.2 u2].toList.map skel) = keylt ka kb := by
      simp only [List.map_cons, List.map_nil, skel, lexlt, keylt, klt, Sum.inl.injEq, Sum.inr.injEq]
    rw [e]; exact h

theorem refs_at {as : List Addr} {i : Nat} (h : i < as.length) : (refs as)[i]? = some (.ref (as.getD i 0)) := by
  simp [h]
theorem sub_ref {value slice : PySem.Expr} {Q : Value → Shared → Prop} (N : News h₀ L s.heap news) (hm : (D, listOf (refs as) n) ∈ news) (h0 : 0 ≤ k) (h1 : k < as.length) (hz : as.length < 1000) (h : Q (.ref (as.getD k.toNat 0)) s)
    (hs : subscripted slice false (.ref D) (.int k t) = operate [.ref D, .int k t] (getItem (.ref D) (.int k t))) :
    wpAny (model prog w) A (subscriptTail value slice (.ref D) (.int k t)) Q E s := by
  have hl : s.heap.IsList D (refs as) := PySem.IsL.isList (n := n) (N _ hm).1
  exact tail_any hl.typeIs slot_list_getitem.lookup (wpAny_getItem_list hl h0 (by omega) (refs_at (by omega)) h) hs
theorem len_ref {Q : Value → Shared → Prop} (N : News h₀ L s.heap news) (hm : (D, listOf (refs as) n) ∈ news) (hz : as.length < 1000) (h : Q (.int (as.length : Nat) (s.toks + 1)) { s with toks := s.toks + 1 + 1 }) :
    wpAny (model prog w) A (call (.builtin "len") [.ref D]) Q E s := by
  have hl : s.heap.IsList D (refs as) := PySem.IsL.isList (n := n) (N _ hm).1
  have hs : (refs as).size = as.length := by simp
  refine call_len_list hl (by omega) ?_
  rw [hs]; exact h
theorem append_ref {v : Addr} {Q : Value → Shared → Prop} (F : Fr h₀ L s.heap m) (N : News h₀ L s.heap news) (U : Upd D (listOf (refs as) n) (listOf (refs (as ++ [v])) (n + 1)) news news') (hz : as.length < 1000)
    (h : ∀ h', Fr h₀ L h' m → News h₀ L h' news' → Q .none { s with heap := h' }) : wpAny (model prog w) A (call (.builtin "list.append") [.ref D, .ref v]) Q E s := by
  have e : refs (as ++ [v]) = (refs as).push (.ref v) := by simp
  rw [e] at U
  exact append_K F N U h (by simp only [List.size_toArray, List.length_map, sizeLine]; omega)
theorem pop_ref {v : Addr} {Q : Value → Shared → Prop} (F : Fr h₀ L s.heap m) (N : News h₀ L s.heap news) (U : Upd D (listOf (refs (as ++ [v])) n) (listOf (refs as) (n + 1)) news news') (hz : as.length < 1000)
    (h : ∀ h', Fr h₀ L h' m → News h₀ L h' news' → Q (.ref v) { s with heap := h' }) : wpAny (model prog w) A (call (.builtin "list.pop") [.ref D]) Q E s :=
  kl_pop F N (p := as.map Value.ref) (y := .ref v) (by show kl_last ((as ++ [v]).map Value.ref) = _; rw [List.map_append]; exact kpa_last _ _) U (by simp only [List.length_map, List.length_append, List.length_singleton, sizeLine]; omega) h
theorem truthy_ref {Q : Bool → Shared → Prop} (N : News h₀ L s.heap news) (hm : (D, listOf (refs as) n) ∈ news) (hz : as.length < 1000) (h : ∀ tk, Q (!as.isEmpty) { s with toks := tk }) :
    wpAny (model prog w) A (truthy (.ref D)) Q E s := by
  have hl : s.heap.IsList D (refs as) := PySem.IsL.isList (n := n) (N _ hm).1
  refine wpAny_truthy_list hl (by simp; omega) ?_
  have e : (!as.isEmpty) = !(refs as).isEmpty := by cases as <;> simp
  rw [e] at h
  exact h _
theorem set_ref {v : Addr} {Q : Unit → Shared → Prop} (F : Fr h₀ L s.heap m) (N : News h₀ L s.heap news) (U : Upd D (listOf (refs as) n) (listOf (refs (as.set k.toNat v)) n) news news') (h0 : 0 ≤ k) (h1 : k < as.length) (hz : as.length < 1000)
    (h : ∀ h', Fr h₀ L h' m → News h₀ L h' news' → Q () { s with heap := h' }) :
    wpAny (model prog w) A (setItem (.ref D) (.int k t) (.ref v)) Q E s := by
  obtain ⟨pre, post, rfl, rfl, a, b⟩ := U.split
  have z := N (D, listOf (refs as) n) (List.mem_append.mpr (.inr (.head _)))
  refine ki_setAt z.1 h0 (by omega) (by simp; omega) (h _ (F.change (Heap.SameBut.update ..) z.2.1 z.2.2) (ki_turn _ N a b ?_ ?_))
  · show (refs as).setIfInBounds k.toNat (.ref v) = refs (as.set k.toNat v)
    apply Array.toList_inj.mp
    simp [List.map_set]
  · simp
end
section
variable {prog : Program} {w : World} {A : Around} {E : Value → Shared → Prop} {s : Shared}
theorem half_nat {k : Int} {t u : Tok} {Q : Value → Shared → Prop} (h0 : 0 ≤ k) (h : Q (.int ((k.toNat / 2 : Nat) : Int) s.toks) { s with toks := s.toks + 1 }) : wpAny (model prog w) A (binaryOp .RShift (.int k t) (.int 1 u)) Q E s := by
  refine rshift_int (by decide) ?_
  have e : k.fdiv (2 ^ Int.toNat 1) = ((k.toNat / 2 : Nat) : Int) := by
    show k.fdiv 2 = _
    rw [Int.fdiv_eq_ediv_of_nonneg _ (by decide)]
    omega
  rw [e]; exact h
end
theorem lookup_is {m : Str → Option Value} {y : Str} {v : Value} : ∀ {l : List (Str × Value)}, (∀ p ∈ l, m p.1 = some p.2) → l.lookup y = some v → m y = some v
  | [], _, e => by cases e
  | (x, u) :: r, h, e => by
    rw [List.lookup_cons] at e
    by_cases hy : (y == x) = true
    · rw [hy] at e
      cases e
      rw [eq_of_beq hy]
      exact h _ (.head _)
    · simp only [hy] at e
      exact lookup_is (fun p hp => h p (.tail _ hp)) e
/-- the names that are known stand in front -/
theorem fr_pins {g h : Heap} {L : Addr} {m : Str → Option Value} (F : Fr g L h m) (l : List (Str × Value)) (e : ∀ p ∈ l, m p.1 = some p.2) : Fr g L h (fun y => match l.lookup y with | some v => some v | none => m y) := by
  have : (fun y => match l.lookup y with | some v => some v | none => m y) = m := by
    funext y
    cases hl : l.lookup y with
    | none => rfl
    | some v => exact (lookup_is e hl).symm
  rw [this]; exact F
end TL2
end Mine

namespace Mine
section TL3
open PySem PySem.W PyProof.Rows PySem.Calls
set_option maxRecDepth 100000
set_option maxHeartbeats 8000000
section
variable {prog : Program} {w : World} {A : Around} {s : Shared} {env : Env} {target : PySem.Expr} {body orelse : List Stmt} {Q : Flow → Shared → Prop}
theorem own_list {it l : Addr} {v : Value} {i : Nat} {Q : Unit → Shared → Prop} (hit : s.heap.IsListIter it l i) (h : Q () s) : wpAny (model prog w) A (letOwnedTupleGo target (.ref it) v) Q no s := by
  obtain ⟨o, ho, hc, hd⟩ := hit
  unfold letOwnedTupleGo
  split
  · split
    · rename_i r a e
      obtain ⟨e1, e2⟩ := Prod.mk.inj e
      cases e1
      refine wpAny_bind (wpAny_load ho ?_)
      rw [hc, hd]
      dsimp only
      rw [if_neg (by simp)]
      exact wpAny_pure h
    · exact wpAny_pure h
  · split
    · rename_i r a e
      obtain ⟨e1, e2⟩ := Prod.mk.inj e
      cases e1
      refine wpAny_bind (wpAny_load ho ?_)
      rw [hc, hd]
      dsimp only
      rw [if_neg (by simp)]
      exact wpAny_pure h
    · exact wpAny_pure h
  · exact wpAny_pure h

/-- where a turn of a for loop over a list ends -/
inductive LEnd (g : Heap) (L it : Addr) (oi : Obj) (s : Shared) (J : (Str → Option Value) → List (Addr × Obj) → Prop) (s₃ : Shared) : Prop
  | mk (h'' : Heap) (tk'' : Nat) (m'' : Str → Option Value) (news'' : List (Addr × Obj)) (e : s₃ = { s with heap := h'', toks := tk'' }) (F : Fr g L h'' m'') (N : News g L h'' ((it, oi) :: news'')) (ne : ∀ p ∈ news'', p.1 ≠ it) (hJ : J m'' news'') : LEnd g L it oi s J s₃
inductive LIn (g : Heap) (L it l : Addr) (vs : Array Value) (s : Shared) (I : Nat → (Str → Option Value) → List (Addr × Obj) → Prop) (k : Nat) (s' : Shared) : Prop
  | mk (h' : Heap) (tk : Nat) (m' : Str → Option Value) (news' : List (Addr × Obj)) (i : Nat) (oi : Obj) (e : s' = { s with heap := h', toks := tk }) (F : Fr g L h' m') (N : News g L h' ((it, oi) :: news')) (ne : ∀ p ∈ news', p.1 ≠ it) (hit : h'.IsListIter it l i) (hJ : I i m' news') (hi : i ≤ vs.size) (hk : k = vs.size + 1 - i) : LIn g L it l vs s I k s'
/-- a for over a list that the loop leaves alone -/
theorem iter_list {g : Heap} {L l : Addr} {m : Str → Option Value} {news : List (Addr × Obj)} {vs : Array Value} (hh : A.handled = none)
    (I : Nat → (Str → Option Value) → List (Addr × Obj) → Prop) (F : Fr g L s.heap m) (N : News g L s.heap news) (hl : s.heap.IsList l vs)
    (h0 : I 0 m news)
    (keep : ∀ i m' news' h', I i m' news' → Fr g L h' m' → News g L h' news' → h'.IsList l vs)
    (turn : ∀ it oi i v m' news' h' tk, (∀ p ∈ news, p.1 < it) → (∀ p ∈ news', p.1 ≠ it) → vs[i]? = some v → I i m' news' → Fr g L h' m' → News g L h' ((it, oi) :: news') →
      wpAny (model prog w) A (assign target env v) (fun _ s₂ => wpAny (model prog w) A (execs body env) (fun f s₃ => match f with
        | .ret v => Q (.ret v) s₃
        | .brk => Q .next s₃
        | _ => Stop (LEnd g L it oi s (I (i + 1)) s₃)) no s₂) no { s with heap := h', toks := tk })
    (done : ∀ m' news' h' tk, I vs.size m' news' → Fr g L h' m' → News g L h' news' → wpAny (model prog w) A (execs orelse env) Q no { s with heap := h', toks := tk }) :
    wpAny (model prog w) A (pyIter (.ref l)) (fun it s₂ => codeAny (model prog w) A (.forLoop target it body orelse env) (fun r s' => match r with | .ok f => Q f s' | .error e => cameBackBy (model prog w) A env no e s') s₂) no s := by
  refine wpAny_pyIter_list hl ?_
  have hlt : ∀ p ∈ news, p.1 < s.heap.objs.size := fun p hp => Heap.lt_size (N p hp).1
  have hLt : L < s.heap.objs.size := F.ns.lt
  have hgt : g.get? s.heap.objs.size = none := by
    cases q : g.get? s.heap.objs.size with
    | none => rfl
    | some o => exact absurd (Heap.lt_size (F.keep _ _ q)) (Nat.lt_irrefl _)
  generalize hit : s.heap.objs.size = it at *
  have fin : ∀ {h h₁ : Heap} {m' news' oi}, Fr g L h m' → News g L h ((it, oi) :: news') → (∀ p ∈ news', p.1 ≠ it) → Heap.ExtBut it h h₁ → Fr g L h₁ m' ∧ News g L h₁ news' := by
    intro h h₁ m' news' oi F1 N1 ne k
    refine ⟨fr_kept F1 N1 (.head _) (fun b o nb e => k b o (fun q => nb (by rw [q]; exact .head _)) e), fun p hp => ?_⟩
    have z := N1 p (.tail _ hp)
    exact ⟨k _ _ (ne p hp) z.1, z.2⟩
  refine codeAny_forLoop_any (LIn g L it l vs s I)
    (fun k s' hI => ?_) (vs.size + 1) ?_
  · obtain ⟨h', tk, m', news', i, oi, rfl, F1, N1, ne, hiter, hJ, hi, rfl⟩ := hI
    have hl' : h'.IsList l vs := keep i m' news' h' hJ F1 fun p hp => N1 p (.tail _ hp)
    have z := N1 _ (.head _)
    cases hv : vs[i]? with
    | none =>
      have hsz : i = vs.size := Nat.le_antisymm hi (by simpa using hv)
      refine wpAny_pyNext_list_end hh hiter hl' hv fun h₁ he₁ => ?_
      obtain ⟨F2, N2⟩ := fin F1 N1 ne he₁
      exact wpAny_mono (done m' news' h₁ tk (hsz ▸ hJ) F2 N2) (fun f s₃ q => q) fun _ _ q => q.elim
    | some v =>
      have hlt' : i < vs.size := (Array.getElem?_eq_some_iff.mp hv).1
      refine wpAny_pyNext_list_item hiter hl' hv fun h₁ hit₁ hs₁ => ?_
      obtain ⟨F2, N2⟩ := fin F1 N1 ne hs₁.extBut
      obtain ⟨o₁, ho₁, hc₁, hd₁⟩ := id hit₁
      have N3 : News g L h₁ ((it, o₁) :: news') := by
        intro p hp
        rcases List.mem_cons.mp hp with rfl | hp
        · exact ⟨ho₁, z.2⟩
        · exact N2 p hp
      refine wpAny_mono (own_list (s := { s with heap := h₁, toks := tk }) hit₁ ?_) (fun _ _ q => q) fun _ _ q => q.elim
      refine wpAny_mono (turn it o₁ i v m' news' h₁ tk hlt ne hv hJ F2 N3) (fun _ s₂ q => wpAny_mono q (fun f s₃ q => ?_) fun _ _ q => q.elim) fun _ _ q => q.elim
      have nx : Stop (LEnd g L it o₁ s (I (i + 1)) s₃) →
          ∃ k', k' < vs.size + 1 - i ∧ LIn g L it l vs s I k' s₃ := by
        rintro ⟨h'', tk'', m'', news'', rfl, F4, N4, ne4, hJ4⟩
        exact ⟨vs.size + 1 - (i + 1), by omega, h'', tk'', m'', news'', i + 1, o₁, rfl, F4, N4, ne4, ⟨o₁, (N4 _ (.head _)).1, hc₁, hd₁⟩, hJ4, hlt', rfl⟩
      cases f with
      | next => exact nx q
      | cont => exact nx q
      | brk => exact q
      | ret v => exact q
  · refine ⟨_, s.toks, m, news, 0, { cls := .type "list_iterator", data := .fields #[.ref l, .int 0 0] }, rfl, F.push _, ?_, fun p hp => Nat.ne_of_lt (hlt p hp), ⟨_, by rw [← hit]; exact Heap.get?_push_size _ rfl, rfl, rfl⟩, h0, Nat.zero_le _, rfl⟩
    intro p hp
    rcases List.mem_cons.mp hp with rfl | hp
    · exact ⟨by rw [← hit]; exact Heap.get?_push_size _ rfl, Nat.ne_of_gt hLt, hgt⟩
    · exact ⟨Heap.get?_push_of_some _ (N p hp).1, (N p hp).2⟩
end
end TL3
end Mine

namespace Mine
section TL4
open PySem PySem.W PyProof.Rows PySem.Calls
set_option maxRecDepth 100000
set_option maxHeartbeats 400000
abbrev sls (xs : List (Str × Tok)) : Array Value := (strValues xs).toArray
theorem sls_size (xs : List (Str × Tok)) : (sls xs).size = xs.length := by simp [strValues]
theorem sum_le {B : Nat} : ∀ {l : List Str}, (∀ y ∈ l, y.length ≤ B) → (l.map (·.length)).sum ≤ l.length * B
  | [], _ => Nat.zero_le _
  | y :: r, h => by
    have h1 := h y (.head _)
    have h2 := sum_le (l := r) fun z hz => h z (.tail _ hz)
    simp only [List.map_cons, List.sum_cons, List.length_cons, Nat.succ_mul]
    omega
theorem join_len {sep : Str} {B : Nat} {l : List Str} (h : ∀ y ∈ l, y.length ≤ B) : (Txt.join sep l).length ≤ l.length * B + l.length * sep.length := by
  have h1 := StrLaws.join_length_le sep l
  have h2 := sum_le h
  have e : Txt.join sep l = Str.join sep l := by
    first | rfl | exact StrLaws.glued_eq_join sep l
  rw [e]
  omega
section
variable {prog : Program} {w : World} {A : Around} {E : Value → Shared → Prop} {s : Shared} {h₀ : Heap} {L D : Addr} {m : Str → Option Value} {news news' : List (Addr × Obj)} {xs : List (Str × Tok)} {n : Nat} {k : Int} {t : Tok} {x : Str}

theorem append_str {Q : Value → Shared → Prop} (F : Fr h₀ L s.heap m) (N : News h₀ L s.heap news) (U : Upd D (listOf (sls xs) n) (listOf (sls (xs ++ [(x, t)])) (n + 1)) news news') (hz : xs.length < 1000)
    (h : ∀ h', Fr h₀ L h' m → News h₀ L h' news' → Q .none { s with heap := h' }) : wpAny (model prog w) A (call (.builtin "list.append") [.ref D, .str x t]) Q E s := by
  have e : sls (xs ++ [(x, t)]) = (sls xs).push (.str x t) := by simp [strValues]
  rw [e] at U
  exact append_K F N U h (by rw [sls_size]; simp only [sizeLine]; omega)
theorem pop_str {Q : Value → Shared → Prop} (F : Fr h₀ L s.heap m) (N : News h₀ L s.heap news) (U : Upd D (listOf (sls xs) n) (listOf (sls xs.dropLast) (n + 1)) news news') (hz : xs.length < 1000) (hne : xs ≠ [])
    (h : ∀ h', Fr h₀ L h' m → News h₀ L h' news' → Q (.str (xs.getLastD (x, t)).1 (xs.getLastD (x, t)).2) { s with heap := h' }) : wpAny (model prog w) A (call (.builtin "list.pop") [.ref D]) Q E s := by
  obtain ⟨ys, y, rfl⟩ : ∃ ys y, xs = ys ++ [y] := ⟨_, _, (List.dropLast_concat_getLast hne).symm⟩
  rw [List.dropLast_concat] at U
  rw [List.getLastD_concat] at h
  exact kl_pop F N (p := strValues ys) (y := .str y.1 y.2) (by show kl_last (strValues (ys ++ [y])) = _; unfold strValues; rw [List.map_append]; exact kpa_last _ _) U
    (by show (strValues (ys ++ [y])).length ≤ _; simp only [strValues, List.length_map, List.length_append, List.length_singleton, sizeLine] at *; omega) h
theorem truthy_str {Q : Bool → Shared → Prop} (N : News h₀ L s.heap news) (hm : (D, listOf (sls xs) n) ∈ news) (hz : xs.length < 1000) (h : ∀ tk, Q (!xs.isEmpty) { s with toks := tk }) :
    wpAny (model prog w) A (truthy (.ref D)) Q E s := by
  have hl : s.heap.IsList D (sls xs) := PySem.IsL.isList (n := n) (N _ hm).1
  refine wpAny_truthy_list hl (by rw [sls_size]; omega) ?_
  have e : (!xs.isEmpty) = !(sls xs).isEmpty := by cases xs <;> simp [strValues]
  rw [e] at h
  exact h _
theorem last_str {value slice : PySem.Expr} {Q : Value → Shared → Prop} (N : News h₀ L s.heap news) (hm : (D, listOf (sls xs) n) ∈ news) (hz : xs.length < 1000) (hne : xs ≠ []) (h : Q (.str (xs.getLastD (x, t)).1 (xs.getLastD (x, t)).2) s)
    (hs : subscripted slice false (.ref D) (.int (-1) u) = operate [.ref D, .int (-1) u] (getItem (.ref D) (.int (-1) u))) :
    wpAny (model prog w) A (subscriptTail value slice (.ref D) (.int (-1) u)) Q E s := by
  obtain ⟨ys, y, rfl⟩ : ∃ ys y, xs = ys ++ [y] := ⟨_, _, (List.dropLast_concat_getLast hne).symm⟩
  rw [List.getLastD_concat] at h
  have hl : s.heap.IsList D (sls (ys ++ [y])) := PySem.IsL.isList (n := n) (N _ hm).1
  have hsz := sls_size (ys ++ [y])
  rw [List.length_append, List.length_singleton] at hsz
  refine tail_any hl.typeIs slot_list_getitem.lookup (wpAny_getItem_list_neg hl (by decide) (by rw [hsz]; omega) (by decide) ?_ h) hs
  rw [hsz, show (-1 + ((ys.length + 1 : Nat) : Int)).toNat = ys.length by omega]
  simp [strValues]
theorem join_str {sep : Str} {u : Tok} {Q : Value → Shared → Prop} {B : Nat} (N : News h₀ L s.heap news) (hm : (D, listOf (sls xs) n) ∈ news) (hB : ∀ y ∈ xs.map (·.1), y.length ≤ B) (hz : xs.length * B + xs.length * sep.length ≤ 16777216)
    (h : ∀ t' k, Q (.str (Txt.join sep (xs.map (·.1))) t') { s with toks := k }) : wpAny (model prog w) A (call (.builtin "str.join") [.str sep u, .ref D]) Q E s := by
  have hl : s.heap.IsList D (sls xs) := PySem.IsL.isList (n := n) (N _ hm).1
  refine SC.join hl rfl ?_ h
  unfold JoinOk
  rw [StrLaws.joinFits hB (by simpa using hz)]
  rfl
end
end TL4
end Mine

namespace Mine
section TL5
open PySem PySem.W PyProof.Rows PySem.Calls
set_option maxRecDepth 100000
set_option maxHeartbeats 400000
theorem cps_append (x y : Str) : (x ++ y).cps.toList = x.cps.toList ++ y.cps.toList := by
  show (x.cps ++ y.cps).toList = _
  simp
theorem len_append (x y : Str) : (x ++ y).length = x.length + y.length := by
  show (x.cps ++ y.cps).size = x.cps.size + y.cps.size
  simp
theorem slash_len : (Str.ofString "/").length = 1 := by decide
theorem shelf_slice (x : Str) : Txt.slice (x ++ Str.ofString "/") none (some (-1)) = x := by
  show StrLaws.sliceText (x ++ Str.ofString "/") none (some (-1)) = x
  have hl : (x ++ Str.ofString "/").length = x.length + 1 := by rw [len_append, slash_len]
  rw [StrLaws.sliceText_to_neg (by decide) (by rw [hl]; omega), hl]
  have e : (-1 + ((x.length + 1 : Nat) : Int) - 0).toNat = x.cps.toList.length := by simp [Str.length]; omega
  rw [e, List.drop_zero, cps_append, List.take_left]
end TL5
end Mine

namespace Mine
section TS1
open PySem PySem.W PyProof.Rows PySem.Calls
set_option maxRecDepth 100000
set_option maxHeartbeats 8000000
local macro_rules | `(tactic| walk_at "my side") => `(tactic| ((case ho => k_is); (case hcd => k_is); (case hroom => decide); (case hbind => exact BindsTo.of_eq rfl); (case hloc => exact locs rfl); (case hcell => decide); (case hco => rfl); (case hgen => rfl); (case hk => rfl)))

local macro_rules | `(tactic| walk_at "subscriptTail") => `(tactic| (k_here; (with_reducible show wpAny _ _ (subscriptTail _ _ (Value.ref _) (Value.int _ _)) _ _ _); k_dflt (refine' sub_ref ?k1 ?k2 ?k3 ?k4 ?k5 ?_ ?k6; (case k1 => k_asm); (case k2 => k_mem); (case k3 => omega); (case k4 => omega); (case k5 => omega); (case k6 => with_unfolding_all rfl); k_whole)))
local macro_rules | `(tactic| walk_at "exec While Compare cons nil") => `(tactic| (k_here; refine Stop.intro ?_))
local macro_rules | `(tactic| walk_at "binaryOp RShift int int") => `(tactic| (k_here; (with_reducible refine' half_nat ?k1 ?_); (case k1 => omega)))
local macro_rules | `(tactic| walk_at "setItem ref int ref") => `(tactic| (k_here; k_dflt (refine' set_ref ?k1 ?k2 ?k3 ?k4 ?k5 ?k6 ?_; (case k1 => k_asm); (case k2 => k_asm); (case k3 => k_upd); (case k4 => omega); (case k5 => omega); (case k6 => omega); k_whole); intro h' F' N'))
local macro_rules | `(tactic| walk_at "compareOp Lt ref ref") => `(tactic| (k_here; k_dflt (refine' item_lt ?k1 ?k2 ?k3 ?_; (case k1 => exact Nat.le_of_ble_eq_true rfl); (case k2 => walk_at "my item"); (case k3 => walk_at "my item"); k_whole)))
local macro_rules | `(tactic| walk_at "my item") => `(tactic| (first | exact Item.keeps (by assumption) (Fr.keep (by k_asm) _)))
noncomputable def sdl (lt : Addr → Addr → Bool) (new : Addr) : Nat → Nat → List Addr → List Addr
  | 0, pos, as => as.set pos new
  | f + 1, pos, as => if 0 < pos then (if lt new (as.getD ((pos - 1) / 2) 0) = true then sdl lt new f ((pos - 1) / 2) (as.set pos (as.getD ((pos - 1) / 2) 0)) else as.set pos new) else as.set pos new
/-- what holds at the head of _siftdown's loop -/
inductive SdI (g : Heap) (L hp : Addr) (n : Nat) (t1 : Tok) (new : Addr) (as : List Addr) (val : Addr → Key) (res : List Addr) (s : Shared) (k : Nat) (s' : Shared) : Prop
  | mk (h' : Heap) (tk : Nat) (m : Str → Option Value) (as' : List Addr) (f : Nat) (tp : Tok) (e : s' = { s with heap := h', toks := tk }) (F : Fr g L h' m) (N : News g L h' [(hp, listOf (refs as') n)])
    (e1 : m (Str.ofString "heap") = some (.ref hp)) (e2 : m (Str.ofString "startpos") = some (.int 0 t1)) (e3 : m (Str.ofString "pos") = some (.int k tp)) (e4 : m (Str.ofString "newitem") = some (.ref new))
    (hk : k < as'.length) (hl : as'.length = as.length) (hin : ∀ a ∈ as', a ∈ as) (hf : k ≤ f) (hs : sdl (fun a b => keylt (val a) (val b)) new f k as' = res) : SdI g L hp n t1 new as val res s k s'
section
variable {w : World} {b₀ : Heap} {mean : ExcName → Option Value} {mg mb : Str → Option Value} {A : Around} {E : Value → Shared → Prop} {s : Shared}

set_option pp.deepTerms false
set_option pp.deepTerms.threshold 6
theorem siftdown_ct {hp : Addr} {as : List Addr} {n p₀ : Nat} {val : Addr → Key} {t1 t2 : Tok} {Q : Value → Shared → Prop} (W : Wd w b₀ mean mg mb) (stb : b₀.StaysIn s.heap) (R : Room A 4)
    (hb : b₀.get? hp = none) (ho : s.heap.get? hp = some (listOf (refs as) n)) (hne : ∀ a ∈ as, a ≠ hp) (hit : ∀ a ∈ as, Item s.heap a (val a))
    (h2 : p₀ < as.length) (h3 : as.length < 1000)
    (ret : ∀ h' tk', Kept [hp] s.heap h' → h'.get? hp = some (listOf (refs (sdl (fun a b => keylt (val a) (val b)) (as.getD p₀ 0) p₀ p₀ as)) n) → Q .none { s with heap := h', toks := tk' }) :
    wpAny (model PySem.Challenge.rw_ik0148_01.row.prog w) A (call (.ref 191) [.ref hp, .int 0 t1, .int p₀ t2]) Q E s := by
  refine R.wp ?_
  have KX := W.K
  revert KX
  k_fill
  intro KX
  refine' enter (binds := [(Str.ofString "heap", .ref hp), (Str.ofString "startpos", .int 0 t1), (Str.ofString "pos", .int p₀ t2)]) [hp] W stb (fun x hx => by rw [List.mem_singleton.mp hx]; exact hb) ?ho ?hcd ?hroom ?hbind ?hloc ?_ ?hcell ?hco ?hgen ?hk
  walk_at "my side"
  intro g L h₁ hg hL F hk₁ KG TG
  clear KX
  have N : News g L h₁ [(hp, listOf (refs as) n)] := by
    intro p hpm
    rw [List.mem_singleton.mp hpm]
    exact ⟨hk₁ _ _ ho, by rw [hL]; exact Nat.ne_of_lt (Heap.lt_size ho), by rw [hg]; exact hideAll_none _ (.head _)⟩
  have hG : ∀ a ∈ as, Item g a (val a) := fun a ha => (hit a ha).keeps fun o e => by rw [hg]; exact hideAll_get _ e (by simpa using hne a ha)
  have hk₂ : Kept [hp] s.heap g := fun b o nb e => by rw [hg]; exact hideAll_get _ e nb
  clear hg hL hk₁
  k_steps
  rename_i h' F' N'
  generalize hnew : as.getD p₀ 0 = new at *
  have hnm : new ∈ as := by rw [← hnew, List.getD_eq_getElem?_getD, List.getElem?_eq_getElem h2]; exact List.getElem_mem h2
  generalize hres : sdl (fun a b => keylt (val a) (val b)) new p₀ p₀ as = res at *
  refine Stop.here (while_inv (SdI g L hp n t1 new as val res s) p₀
    ⟨h', _, _, as, p₀, t2, rfl, F', N', rfl, rfl, rfl, congrArg (fun a => some (Value.ref a)) hnew, h2, rfl, fun _ h => h, Nat.le_refl _, hres⟩ ?_)
  rintro k s' ⟨h'', tk, m, as', f, tp, rfl, F1, N1, e1, e2, e3, e4, hk, hl, hin, hf, hs⟩
  clear F' N'
  refine hideW fun PP hPP => ?_
  have F2 := fr_pins F1 [(Str.ofString "heap", .ref hp), (Str.ofString "startpos", .int 0 t1), (Str.ofString "pos", .int k tp), (Str.ofString "newitem", .ref new)] (by simp only [List.forall_mem_cons]; exact ⟨e1, e2, e3, e4, fun _ h => nomatch h⟩)
  clear F1
  have hI := hG new hnm
  have hI' := hG (as'.getD (((k : Int) - 1).toNat / 2) 0) (hin _ (by rw [List.getD_eq_getElem?_getD, List.getElem?_eq_getElem (by omega)]; exact List.getElem_mem _))
  have hz : ((k : Int) - 1).toNat / 2 = (k - 1) / 2 := by omega
  k_steps
  · rename (keylt _ _ = _) => hlt
    rename (Fr _ _ _ _) => F3
    rename (News _ _ _ _) => N3
    obtain ⟨f, rfl⟩ : ∃ f', f = f' + 1 := ⟨f - 1, by omega⟩
    refine hPP _ _ (Stop.here ?_)
    refine ⟨((k : Int) - 1).toNat / 2, by omega, _, _, _, as'.set k (as'.getD (((k : Int) - 1).toNat / 2) 0), f, _, rfl, F3, N3, rfl, rfl, rfl, rfl, ?_, ?_, ?_, by omega, ?_⟩
    · rw [List.length_set]; omega
    · rw [List.length_set]; exact hl
    · intro a ha
      rcases List.mem_or_eq_of_mem_set ha with ha | rfl
      · exact hin a ha
      · exact hin _ (by rw [List.getD_eq_getElem?_getD, List.getElem?_eq_getElem (by omega)]; exact List.getElem_mem _)
    · rw [← hs, sdl, if_pos (by omega), hz, if_pos (by rw [← hz]; exact hlt)]
  · rename (keylt _ _ = _) => hlt
    refine hPP _ _ ?_
    dsimp only
    k_steps
    rename (Fr _ _ _ _) => F3
    rename (News _ _ _ _) => N3
    refine ret _ _ (fun b o nb e => F3.keep b o (hk₂ b o nb e)) ?_
    obtain ⟨f, rfl⟩ : ∃ f', f = f' + 1 := ⟨f - 1, by omega⟩
    rw [← hs, sdl, if_pos (by omega), if_neg (by rw [← hz]; exact fun e => Bool.false_ne_true (hlt.symm.trans e))]
    exact (N3 _ (.head _)).1
  · rename (Fr _ _ _ _) => F3
    rename (News _ _ _ _) => N3
    refine ret _ _ (fun b o nb e => F3.keep b o (hk₂ b o nb e)) ?_
    have : sdl (fun a b => keylt (val a) (val b)) new f k as' = as'.set k new := by
      cases f with
      | zero => rfl
      | succ f => rw [sdl, if_neg (by omega)]
    rw [← hs, this]
    exact (N3 _ (.head _)).1
end
end TS1
end Mine

namespace Mine
section TS2
open PySem PySem.W PyProof.Rows PySem.Calls
set_option maxRecDepth 100000
set_option maxHeartbeats 8000000
local macro_rules | `(tactic| walk_at "my side") => `(tactic| ((case ho => k_is); (case hcd => k_is); (case hroom => decide); (case hbind => exact BindsTo.of_eq rfl); (case hloc => exact locs rfl); (case hcell => decide); (case hco => rfl); (case hgen => rfl); (case hk => rfl)))

local macro_rules | `(tactic| walk_at "subscriptTail") => `(tactic| (k_here; (with_reducible show wpAny _ _ (subscriptTail _ _ (Value.ref _) (Value.int _ _)) _ _ _); k_dflt (refine' sub_ref ?k1 ?k2 ?k3 ?k4 ?k5 ?_ ?k6; (case k1 => k_asm); (case k2 => k_mem); (case k3 => omega); (case k4 => omega); (case k5 => omega); (case k6 => with_unfolding_all rfl); k_whole)))
local macro_rules | `(tactic| walk_at "exec While Compare cons nil") => `(tactic| (k_here; refine Stop.intro ?_))
local macro_rules | `(tactic| walk_at "binaryOp RShift int int") => `(tactic| (k_here; (with_reducible refine' half_nat ?k1 ?_); (case k1 => omega)))
local macro_rules | `(tactic| walk_at "setItem ref int ref") => `(tactic| (k_here; k_dflt (refine' set_ref ?k1 ?k2 ?k3 ?k4 ?k5 ?k6 ?_; (case k1 => k_asm); (case k2 => k_asm); (case k3 => k_upd); (case k4 => omega); (case k5 => omega); (case k6 => omega); k_whole); intro h' F' N'))
local macro_rules | `(tactic| walk_at "compareOp Lt ref ref") => `(tactic| (k_here; k_dflt (refine' item_lt ?k1 ?k2 ?k3 ?_; (case k1 => exact Nat.le_of_ble_eq_true rfl); (case k2 => walk_at "my item"); (case k3 => walk_at "my item"); k_whole)))
local macro_rules | `(tactic| walk_at "my item") => `(tactic| (first | exact Item.keeps (by assumption) (Fr.keep (by k_asm) _)))
local macro_rules | `(tactic| walk_at "call ref") => `(tactic| (k_here; refine Stop.intro ?_))
local macro_rules | `(tactic| walk_at "call builtin:len") => `(tactic| (k_here; (with_reducible show wpAny _ _ (call (Value.builtin "len") [Value.ref _]) _ _ _); k_dflt (refine' len_ref ?k1 ?k2 ?k3 ?_; (case k1 => k_asm); (case k2 => k_mem); (case k3 => omega); k_whole)))
theorem getD_mem {as : List Addr} {i : Nat} (h : i < as.length) : as.getD i 0 ∈ as := by
  rw [List.getD_eq_getElem?_getD, List.getElem?_eq_getElem h]; exact List.getElem_mem h
noncomputable def sul (lt : Addr → Addr → Bool) : Nat → Nat → List Addr → List Addr × Nat
  | 0, pos, as => (as, pos)
  | f + 1, pos, as => if 2 * pos + 1 < as.length then
      (if 2 * pos + 2 < as.length ∧ lt (as.getD (2 * pos + 1) 0) (as.getD (2 * pos + 2) 0) = false then sul lt f (2 * pos + 2) (as.set pos (as.getD (2 * pos + 2) 0)) else sul lt f (2 * pos + 1) (as.set pos (as.getD (2 * pos + 1) 0)))
    else (as, pos)
noncomputable def sup (lt : Addr → Addr → Bool) (as : List Addr) : List Addr :=
  let r := sul lt as.length 0 as
  sdl lt (as.getD 0 0) r.2 r.2 (r.1.set r.2 (as.getD 0 0))
section
variable {w : World} {b₀ : Heap} {mean : ExcName → Option Value} {mg mb : Str → Option Value} {A : Around} {E : Value → Shared → Prop} {s : Shared}
theorem siftdown_K {g : Heap} {L hp : Addr} {m : Str → Option Value} {as : List Addr} {n p₀ : Nat} {pI : Int} {val : Addr → Key} {t1 t2 : Tok} {Q : Value → Shared → Prop} (W : Wd w b₀ mean mg mb) (gst : b₀.StaysIn g) (R : Room A 4)
    (F : Fr g L s.heap m) (N : News g L s.heap [(hp, listOf (refs as) n)]) (hit : ∀ a ∈ as, Item g a (val a)) (hb : b₀.get? hp = none)
    (hpI : pI = (p₀ : Int)) (h2 : p₀ < as.length) (h3 : as.length < 1000)
    (ret : ∀ h' tk', Fr g L h' m → News g L h' [(hp, listOf (refs (sdl (fun a b => keylt (val a) (val b)) (as.getD p₀ 0) p₀ p₀ as)) n)] → Q .none { s with heap := h', toks := tk' }) :
    wpAny (model PySem.Challenge.rw_ik0148_01.row.prog w) A (call (.ref 191) [.ref hp, .int 0 t1, .int pI t2]) Q E s := by
  subst hpI
  have z := N _ (.head _)
  refine siftdown_ct W (fun b o e => F.keep b o (gst b o e)) R hb z.1 (fun a ha q => ?_) (fun a ha => (hit a ha).keeps (F.keep a)) h2 h3 fun h' tk' k e => ret h' tk' (fr_kept F N (.head _) k) fun p hp' => ?_
  · obtain ⟨_, _, _, e⟩ := hit a ha
    rw [q, z.2.2] at e; cases e
  · rw [List.mem_singleton.mp hp']
    exact ⟨e, z.2⟩

/-- what holds at the head of _siftup's loop -/
inductive SuI (g : Heap) (L hp : Addr) (n : Nat) (t1 : Tok) (new : Addr) (as : List Addr) (val : Addr → Key) (r : List Addr × Nat) (s : Shared) (k : Nat) (s' : Shared) : Prop
  | mk (h' : Heap) (tk : Nat) (m : Str → Option Value) (as' : List Addr) (f p : Nat) (c : Int) (tp tc te : Tok) (e : s' = { s with heap := h', toks := tk }) (F : Fr g L h' m) (N : News g L h' [(hp, listOf (refs as') n)])
    (e1 : m (Str.ofString "heap") = some (.ref hp)) (e2 : m (Str.ofString "startpos") = some (.int 0 t1)) (e3 : m (Str.ofString "pos") = some (.int ((p : Nat) : Int) tp)) (e4 : m (Str.ofString "newitem") = some (.ref new))
    (e5 : m (Str.ofString "childpos") = some (.int c tc)) (e6 : m (Str.ofString "endpos") = some (.int (as.length : Nat) te))
    (hc : c = 2 * (p : Int) + 1) (hk : k = as.length - p) (hp' : p < as'.length) (hl : as'.length = as.length) (hin : ∀ a ∈ as', a ∈ as) (hf : k ≤ f) (hs : sul (fun a b => keylt (val a) (val b)) f p as' = r) : SuI g L hp n t1 new as val r s k s'
set_option pp.deepTerms false
set_option pp.deepTerms.threshold 6
theorem siftup_ct {hp : Addr} {as : List Addr} {n : Nat} {val : Addr → Key} {t1 : Tok} {Q : Value → Shared → Prop} (W : Wd w b₀ mean mg mb) (stb : b₀.StaysIn s.heap) (R : Room A 8)
    (hb : b₀.get? hp = none) (ho : s.heap.get? hp = some (listOf (refs as) n)) (hne : ∀ a ∈ as, a ≠ hp) (hit : ∀ a ∈ as, Item s.heap a (val a))
    (h2 : 0 < as.length) (h3 : as.length < 1000)
    (ret : ∀ h' tk', Kept [hp] s.heap h' → h'.get? hp = some (listOf (refs (sup (fun a b => keylt (val a) (val b)) as)) n) → Q .none { s with heap := h', toks := tk' }) :
    wpAny (model PySem.Challenge.rw_ik0148_01.row.prog w) A (call (.ref 198) [.ref hp, .int 0 t1]) Q E s := by
  refine R.wp ?_
  have KX := W.K
  revert KX
  k_fill
  intro KX
  refine' enter (binds := [(Str.ofString "heap", .ref hp), (Str.ofString "pos", .int 0 t1)]) [hp] W stb (fun x hx => by rw [List.mem_singleton.mp hx]; exact hb) ?ho ?hcd ?hroom ?hbind ?hloc ?_ ?hcell ?hco ?hgen ?hk
  walk_at "my side"
  intro g L h₁ hg hL F hk₁ KG TG
  clear KX
  have N : News g L h₁ [(hp, listOf (refs as) n)] := by
    intro p hpm
    rw [List.mem_singleton.mp hpm]
    exact ⟨hk₁ _ _ ho, by rw [hL]; exact Nat.ne_of_lt (Heap.lt_size ho), by rw [hg]; exact hideAll_none _ (.head _)⟩
  have hG : ∀ a ∈ as, Item g a (val a) := fun a ha => (hit a ha).keeps fun o e => by rw [hg]; exact hideAll_get _ e (by simpa using hne a ha)
  have hk₂ : Kept [hp] s.heap g := fun b o nb e => by rw [hg]; exact hideAll_get _ e nb
  have gst : b₀.StaysIn g := fun b o e => hk₂ b o (fun q => by rw [List.mem_singleton.mp q, hb] at e; cases e) (stb b o e)
  clear hg hL hk₁
  k_with "my item" => exact Item.keeps (hG _ (hin _ (getD_mem (by omega)))) (Fr.keep (by k_asm) _)
  k_steps
  rename (Fr _ _ _ _) => F'
  rename (News _ _ _ _) => N'
  generalize hnew : as.getD 0 0 = new at *
  have hnm : new ∈ as := by rw [← hnew]; exact getD_mem h2
  generalize hr : sul (fun a b => keylt (val a) (val b)) as.length 0 as = r at *
  have hsup : sup (fun a b => keylt (val a) (val b)) as = sdl (fun a b => keylt (val a) (val b)) new r.2 r.2 (r.1.set r.2 new) := by
    unfold sup; rw [hr, hnew]
  refine Stop.here (while_inv (SuI g L hp n t1 new as val r s) as.length
    ⟨_, _, _, as, as.length, 0, _, t1, _, _, rfl, F', N', rfl, rfl, rfl, congrArg (fun a => some (Value.ref a)) hnew, rfl, rfl, rfl, rfl, h2, rfl, fun _ h => h, Nat.le_refl _, hr⟩ ?_)
  rintro k s' ⟨h'', tk, m, as', f, p, c, tp, tc, te, rfl, F1, N1, e1, e2, e3, e4, e5, e6, hc, hk, hp', hl, hin, hf, hs⟩
  clear F' N'
  have F2 := fr_pins F1 [(Str.ofString "heap", .ref hp), (Str.ofString "startpos", .int 0 t1), (Str.ofString "pos", .int (p : Nat) tp), (Str.ofString "newitem", .ref new), (Str.ofString "childpos", .int c tc), (Str.ofString "endpos", .int (as.length : Nat) te)] (by simp only [List.forall_mem_cons]; exact ⟨e1, e2, e3, e4, e5, e6, fun _ h => nomatch h⟩)
  clear F1
  obtain ⟨f, rfl⟩ : ∃ f', f = f' + 1 := ⟨f - 1, by omega⟩
  refine hideW fun PP hPP => ?_
  have step : ∀ (cc : Nat) (cI ccI : Int) (ix : Nat) (h3 : Heap) (tk3 : Nat) (m3 : Str → Option Value) (tp3 tc3 : Tok), Fr g L h3 m3 → News g L h3 [(hp, listOf (refs (as'.set p (as'.getD ix 0))) n)] →
      m3 (Str.ofString "heap") = some (.ref hp) → m3 (Str.ofString "startpos") = some (.int 0 t1) → m3 (Str.ofString "pos") = some (.int cI tp3) → m3 (Str.ofString "newitem") = some (.ref new) →
      m3 (Str.ofString "childpos") = some (.int ccI tc3) → m3 (Str.ofString "endpos") = some (.int (as.length : Nat) te) → cI = (cc : Int) → ix = cc → ccI = 2 * cI + 1 → p < cc → cc < as'.length →
      sul (fun a b => keylt (val a) (val b)) f cc (as'.set p (as'.getD cc 0)) = r →
      PP .next { s with heap := h3, toks := tk3 } := by
    intro cc cI ccI ix h3 tk3 m3 tp3 tc3 F3 N3 q1 q2 q3 q4 q5 q6 hcI hix hcc hlt hlen hsul
    subst hix hcI
    refine hPP _ _ (Stop.here ?_)
    refine ⟨as.length - ix, by omega, h3, tk3, m3, as'.set p (as'.getD ix 0), f, ix, ccI, tp3, tc3, te, rfl, F3, N3, q1, q2, q3, q4, q5, q6, hcc, rfl, ?_, ?_, ?_, by omega, hsul⟩
    · rw [List.length_set]; exact hlen
    · rw [List.length_set]; exact hl
    · intro a ha
      rcases List.mem_or_eq_of_mem_set ha with ha | rfl
      · exact hin a ha
      · exact hin _ (getD_mem hlen)
  rw [sul] at hs
  k_steps
  · rename (keylt _ _ = _) => hlt
    rename (Fr _ _ _ _) => F3
    rename (News _ _ _ _) => N3
    rw [show (c + 1).toNat = 2 * p + 2 by omega, show c.toNat = 2 * p + 1 by omega] at hlt
    rw [if_pos (by omega), if_neg (fun x => Bool.false_ne_true (x.2.symm.trans hlt))] at hs
    exact step (2 * p + 1) c _ c.toNat _ _ _ _ _ F3 N3 rfl rfl rfl rfl rfl rfl (by omega) (by omega) rfl (by omega) (by omega) hs
  · rename (keylt _ _ = _) => hlt
    rename (Fr _ _ _ _) => F3
    rename (News _ _ _ _) => N3
    rw [show (c + 1).toNat = 2 * p + 2 by omega, show c.toNat = 2 * p + 1 by omega] at hlt
    rw [if_pos (by omega), if_pos ⟨by omega, hlt⟩] at hs
    exact step (2 * p + 2) (c + 1) _ (c + 1).toNat _ _ _ _ _ F3 N3 rfl rfl rfl rfl rfl rfl (by omega) (by omega) rfl (by omega) (by omega) hs
  · rename (Fr _ _ _ _) => F3
    rename (News _ _ _ _) => N3
    rw [if_pos (by omega), if_neg (by omega)] at hs
    exact step (2 * p + 1) c _ c.toNat _ _ _ _ _ F3 N3 rfl rfl rfl rfl rfl rfl (by omega) (by omega) rfl (by omega) (by omega) hs
  · rename (Fr _ _ _ _) => F3
    rename (News _ _ _ _) => N3
    rw [if_neg (by omega)] at hs
    subst hs
    have hp2 : p < (as'.set p new).length := by rw [List.length_set]; exact hp'
    have hgd : (as'.set p new).getD p 0 = new := by rw [List.getD_eq_getElem?_getD, List.getElem?_set_self hp']; rfl
    refine Stop.here (siftdown_K (as := as'.set p new) (p₀ := p) (val := val) W gst ⟨rfl, Nat.le_of_ble_eq_true rfl, Nat.le_of_ble_eq_true rfl⟩ F3 N3 (fun a ha => ?_) hb rfl hp2 (by rw [List.length_set]; omega) fun h' tk' F4 N4 => ?_)
    · rcases List.mem_or_eq_of_mem_set ha with ha | rfl
      · exact hG a (hin a ha)
      · exact hG _ hnm
    · rw [hgd] at N4
      show wpAny _ _ _ _ _ _
      k_steps
      refine ret _ _ (fun b o nb e => F4.keep b o (hk₂ b o nb e)) ?_
      rw [hsup]
      exact (N4 _ (.head _)).1
end
end TS2
end Mine

namespace Mine
section TS3
open PySem PySem.W PyProof.Rows PySem.Calls
set_option maxRecDepth 100000
set_option maxHeartbeats 8000000
local macro_rules | `(tactic| walk_at "my side") => `(tactic| ((case ho => k_is); (case hcd => k_is); (case hroom => decide); (case hbind => exact BindsTo.of_eq rfl); (case hloc => exact locs rfl); (case hcell => decide); (case hco => rfl); (case hgen => rfl); (case hk => rfl)))

local macro_rules | `(tactic| walk_at "subscriptTail") => `(tactic| (k_here; (with_reducible show wpAny _ _ (subscriptTail _ _ (Value.ref _) (Value.int _ _)) _ _ _); k_dflt (refine' sub_ref ?k1 ?k2 ?k3 ?k4 ?k5 ?_ ?k6; (case k1 => k_asm); (case k2 => k_mem); (case k3 => omega); (case k4 => omega); (case k5 => omega); (case k6 => with_unfolding_all rfl); k_whole)))
local macro_rules | `(tactic| walk_at "exec While Compare cons nil") => `(tactic| (k_here; refine Stop.intro ?_))
local macro_rules | `(tactic| walk_at "binaryOp RShift int int") => `(tactic| (k_here; (with_reducible refine' half_nat ?k1 ?_); (case k1 => omega)))
local macro_rules | `(tactic| walk_at "setItem ref int ref") => `(tactic| (k_here; k_dflt (refine' set_ref ?k1 ?k2 ?k3 ?k4 ?k5 ?k6 ?_; (case k1 => k_asm); (case k2 => k_asm); (case k3 => k_upd); (case k4 => omega); (case k5 => omega); (case k6 => omega); k_whole); intro h' F' N'))
local macro_rules | `(tactic| walk_at "compareOp Lt ref ref") => `(tactic| (k_here; k_dflt (refine' item_lt ?k1 ?k2 ?k3 ?_; (case k1 => exact Nat.le_of_ble_eq_true rfl); (case k2 => walk_at "my item"); (case k3 => walk_at "my item"); k_whole)))
local macro_rules | `(tactic| walk_at "my item") => `(tactic| (first | exact Item.keeps (by assumption) (Fr.keep (by k_asm) _)))
local macro_rules | `(tactic| walk_at "call ref") => `(tactic| (k_here; refine Stop.intro ?_))
local macro_rules | `(tactic| walk_at "call builtin:len") => `(tactic| (k_here; (with_reducible show wpAny _ _ (call (Value.builtin "len") [Value.ref _]) _ _ _); k_dflt (refine' len_ref ?k1 ?k2 ?k3 ?_; (case k1 => k_asm); (case k2 => k_mem); (case k3 => omega); k_whole)))
local macro_rules | `(tactic| walk_at "call builtin:list.append") => `(tactic| (k_here; k_dflt (refine' append_ref ?k1 ?k2 ?k3 ?k4 ?_; (case k1 => k_asm); (case k2 => k_asm); (case k3 => k_upd); (case k4 => omega); k_whole); intro h' F' N'))
local macro_rules | `(tactic| walk_at "call builtin:list.pop") => `(tactic| (k_here; k_dflt (refine' pop_ref ?k1 ?k2 ?k3 ?k4 ?_; (case k1 => k_asm); (case k2 => k_asm); (case k3 => k_upd); (case k4 => omega); k_whole); intro h' F' N'))
local macro_rules | `(tactic| walk_at "truthy ref") => `(tactic| (k_here; k_dflt (refine' truthy_ref ?k1 ?k2 ?k3 ?_; (case k1 => k_asm); (case k2 => k_mem); (case k3 => omega); k_whole); intro tk'))
section
variable {w : World} {b₀ : Heap} {mean : ExcName → Option Value} {mg mb : Str → Option Value} {A : Around} {E : Value → Shared → Prop} {s : Shared}
theorem siftup_K {g : Heap} {L hp : Addr} {m : Str → Option Value} {as : List Addr} {n : Nat} {val : Addr → Key} {t1 : Tok} {Q : Value → Shared → Prop} (W : Wd w b₀ mean mg mb) (gst : b₀.StaysIn g) (R : Room A 8)
    (F : Fr g L s.heap m) (N : News g L s.heap [(hp, listOf (refs as) n)]) (hit : ∀ a ∈ as, Item g a (val a)) (hb : b₀.get? hp = none)
    (h2 : 0 < as.length) (h3 : as.length < 1000)
    (ret : ∀ h' tk', Fr g L h' m → News g L h' [(hp, listOf (refs (sup (fun a b => keylt (val a) (val b)) as)) n)] → Q .none { s with heap := h', toks := tk' }) :
    wpAny (model PySem.Challenge.rw_ik0148_01.row.prog w) A (call (.ref 198) [.ref hp, .int 0 t1]) Q E s := by
  have z := N _ (.head _)
  refine siftup_ct W (fun b o e => F.keep b o (gst b o e)) R hb z.1 (fun a ha q => ?_) (fun a ha => (hit a ha).keeps (F.keep a)) h2 h3 fun h' tk' k e => ret h' tk' (fr_kept F N (.head _) k) fun p hp' => ?_
  · obtain ⟨_, _, _, e⟩ := hit a ha
    rw [q, z.2.2] at e; cases e
  · rw [List.mem_singleton.mp hp']
    exact ⟨e, z.2⟩

set_option pp.deepTerms false
set_option pp.deepTerms.threshold 6
theorem heappush_ct {hp x : Addr} {as : List Addr} {n : Nat} {val : Addr → Key} {Q : Value → Shared → Prop} (W : Wd w b₀ mean mg mb) (stb : b₀.StaysIn s.heap) (R : Room A 12)
    (hb : b₀.get? hp = none) (ho : s.heap.get? hp = some (listOf (refs as) n)) (hne : ∀ a ∈ as, a ≠ hp) (hit : ∀ a ∈ as, Item s.heap a (val a)) (hxne : x ≠ hp) (hx : Item s.heap x (val x))
    (h3 : as.length < 900)
    (ret : ∀ h' tk', Kept [hp] s.heap h' → h'.get? hp = some (listOf (refs (sdl (fun a b => keylt (val a) (val b)) x as.length as.length (as ++ [x]))) (n + 1)) → Q .none { s with heap := h', toks := tk' }) :
    wpAny (model PySem.Challenge.rw_ik0148_01.row.prog w) A (call (.ref 177) [.ref hp, .ref x]) Q E s := by
  refine R.wp ?_
  have KX := W.K
  revert KX
  k_fill
  intro KX
  refine' enter (binds := [(Str.ofString "heap", .ref hp), (Str.ofString "item", .ref x)]) [hp] W stb (fun x hx => by rw [List.mem_singleton.mp hx]; exact hb) ?ho ?hcd ?hroom ?hbind ?hloc ?_ ?hcell ?hco ?hgen ?hk
  walk_at "my side"
  intro g L h₁ hg hL F hk₁ KG TG
  clear KX
  have N : News g L h₁ [(hp, listOf (refs as) n)] := by
    intro p hpm
    rw [List.mem_singleton.mp hpm]
    exact ⟨hk₁ _ _ ho, by rw [hL]; exact Nat.ne_of_lt (Heap.lt_size ho), by rw [hg]; exact hideAll_none _ (.head _)⟩
  have hG : ∀ a ∈ as, Item g a (val a) := fun a ha => (hit a ha).keeps fun o e => by rw [hg]; exact hideAll_get _ e (by simpa using hne a ha)
  have hX : Item g x (val x) := hx.keeps fun o e => by rw [hg]; exact hideAll_get _ e (by simpa using hxne)
  have hk₂ : Kept [hp] s.heap g := fun b o nb e => by rw [hg]; exact hideAll_get _ e nb
  have gst : b₀.StaysIn g := fun b o e => hk₂ b o (fun q => by rw [List.mem_singleton.mp q, hb] at e; cases e) (stb b o e)
  clear hg hL hk₁
  have hlen : (as ++ [x]).length = as.length + 1 := by simp
  k_steps
  rename (Fr _ _ _ _) => F3
  rename (News _ _ _ _) => N3
  refine Stop.here (siftdown_K (as := as ++ [x]) (p₀ := as.length) (val := val) W gst ⟨rfl, Nat.le_of_ble_eq_true rfl, Nat.le_of_ble_eq_true rfl⟩ F3 N3 (fun a ha => ?_) hb (by rw [hlen]; omega) (by omega) (by omega) fun h' tk' F4 N4 => ?_)
  · rcases List.mem_append.mp ha with ha | ha
    · exact hG a ha
    · rw [List.mem_singleton.mp ha]; exact hX
  · have hgd : (as ++ [x]).getD as.length 0 = x := by simp
    rw [hgd] at N4
    show wpAny _ _ _ _ _ _
    k_steps
    exact ret _ _ (fun b o nb e => F4.keep b o (hk₂ b o nb e)) (N4 _ (.head _)).1

theorem heappop_ct {hp x : Addr} {as : List Addr} {n : Nat} {val : Addr → Key} {Q : Value → Shared → Prop} (W : Wd w b₀ mean mg mb) (stb : b₀.StaysIn s.heap) (R : Room A 12)
    (hb : b₀.get? hp = none) (ho : s.heap.get? hp = some (listOf (refs (as ++ [x])) n)) (hne : ∀ a ∈ as ++ [x], a ≠ hp) (hit : ∀ a ∈ as ++ [x], Item s.heap a (val a))
    (h3 : as.length < 900)
    (ret : ∀ h' tk', Kept [hp] s.heap h' → h'.get? hp = some (listOf (refs (match as with | [] => [] | _ :: r => sup (fun a b => keylt (val a) (val b)) (x :: r))) (n + 1)) → Q (.ref (as.headD x)) { s with heap := h', toks := tk' }) :
    wpAny (model PySem.Challenge.rw_ik0148_01.row.prog w) A (call (.ref 184) [.ref hp]) Q E s := by
  refine R.wp ?_
  have KX := W.K
  revert KX
  k_fill
  intro KX
  refine' enter (binds := [(Str.ofString "heap", .ref hp)]) [hp] W stb (fun x hx => by rw [List.mem_singleton.mp hx]; exact hb) ?ho ?hcd ?hroom ?hbind ?hloc ?_ ?hcell ?hco ?hgen ?hk
  walk_at "my side"
  intro g L h₁ hg hL F hk₁ KG TG
  clear KX
  have N : News g L h₁ [(hp, listOf (refs (as ++ [x])) n)] := by
    intro p hpm
    rw [List.mem_singleton.mp hpm]
    exact ⟨hk₁ _ _ ho, by rw [hL]; exact Nat.ne_of_lt (Heap.lt_size ho), by rw [hg]; exact hideAll_none _ (.head _)⟩
  have hG : ∀ a ∈ as ++ [x], Item g a (val a) := fun a ha => (hit a ha).keeps fun o e => by rw [hg]; exact hideAll_get _ e (by simpa using hne a ha)
  have hk₂ : Kept [hp] s.heap g := fun b o nb e => by rw [hg]; exact hideAll_get _ e nb
  have gst : b₀.StaysIn g := fun b o e => hk₂ b o (fun q => by rw [List.mem_singleton.mp q, hb] at e; cases e) (stb b o e)
  clear hg hL hk₁
  cases as with
  | nil =>
    k_steps
    rename (Fr _ _ _ _) => F4
    rename (News _ _ _ _) => N4
    exact ret _ _ (fun b o nb e => F4.keep b o (hk₂ b o nb e)) (N4 _ (.head _)).1
  | cons y r =>
    have hlen : (y :: r).length = r.length + 1 := rfl
    k_steps
    · rename (List.isEmpty _ = true) => q
      exact absurd q (by simp)
    rename (Fr _ _ _ _) => F3
    rename (News _ _ _ _) => N3
    refine Stop.here (siftup_K (as := x :: r) (val := val) W gst ⟨rfl, Nat.le_of_ble_eq_true rfl, Nat.le_of_ble_eq_true rfl⟩ F3 N3 (fun a ha => ?_) hb (Nat.succ_pos _) (by rw [List.length_cons]; omega) fun h' tk' F4 N4 => ?_)
    · rcases List.mem_cons.mp ha with rfl | ha
      · exact hG _ (by simp)
      · exact hG _ (by simp [ha])
    · show wpAny _ _ _ _ _ _
      k_steps
      exact ret _ _ (fun b o nb e => F4.keep b o (hk₂ b o nb e)) (N4 _ (.head _)).1
end
end TS3
end Mine

namespace Mine
section TP1
open PySem PySem.W PyProof.Rows PySem.Calls
set_option maxRecDepth 100000
set_option maxHeartbeats 8000000
local macro_rules | `(tactic| walk_at "my side") => `(tactic| ((case ho => k_is); (case hcd => k_is); (case hroom => decide); (case hbind => exact BindsTo.of_eq rfl); (case hloc => exact locs rfl); (case hcell => decide); (case hco => rfl); (case hgen => rfl); (case hk => rfl)))
section
variable {w : World} {b₀ : Heap} {mean : ExcName → Option Value} {mg mb : Str → Option Value} {A : Around} {E : Value → Shared → Prop} {s : Shared}
set_option pp.deepTerms false
set_option pp.deepTerms.threshold 6

theorem fspath_K {g : Heap} {L : Addr} {m : Str → Option Value} {news : List (Addr × Obj)} {p : Str} {t : Tok} {Q : Value → Shared → Prop} (W : Wd w b₀ mean mg mb) (gst : b₀.StaysIn g) (R : Room A 2)
    (F : Fr g L s.heap m) (N : News g L s.heap news) (ret : ∀ h' tk', Fr g L h' m → News g L h' news → Q (.str p t) { s with heap := h', toks := tk' }) :
    wpAny (model PySem.Challenge.rw_ik0148_01.row.prog w) A (call (.ref 101) [.str p t]) Q E s :=
  fspath_ct W (fun b o e => F.keep b o (gst b o e)) R fun h' tk' k => ret h' tk' (fr_stay F k) (news_stay N k)
local macro_rules | `(tactic| walk_at "call ref") => `(tactic| (k_here; k_dflt (refine' fspath_K ?k1 ?k2 ⟨rfl, Nat.le_of_ble_eq_true rfl, Nat.le_of_ble_eq_true rfl⟩ ?k3 ?k4 ?_; (case k1 => assumption); (case k2 => assumption); (case k3 => k_asm); (case k4 => k_asm); k_whole); intro h' tk' F' N'))

theorem getsep_ct {p : Str} {t : Tok} {Q : Value → Shared → Prop} (W : Wd w b₀ mean mg mb) (stb : b₀.StaysIn s.heap) (R : Room A 2)
    (ret : ∀ h' tk' t', s.heap.StaysIn h' → Q (.str (Str.ofString "/") t') { s with heap := h', toks := tk' }) :
    wpAny (model PySem.Challenge.rw_ik0148_01.row.prog w) A (call (.ref 219) [.str p t]) Q E s := by
  refine R.wp ?_
  have KX := W.K
  revert KX
  k_fill
  intro KX
  refine' enter (binds := [(Str.ofString "path", .str p t)]) [] W stb (fun x hx => nomatch hx) ?ho ?hcd ?hroom ?hbind ?hloc ?_ ?hcell ?hco ?hgen ?hk
  walk_at "my side"
  intro g L h₁ hg hL F hk₁ KG TG
  clear KX
  have N : News g L h₁ [] := News.nil
  k_steps
  rename (Fr _ _ _ _) => F'
  exact ret _ _ _ (fun b o e => F'.keep b o (hg ▸ e))
theorem getsep_K {g : Heap} {L : Addr} {m : Str → Option Value} {news : List (Addr × Obj)} {p : Str} {t : Tok} {Q : Value → Shared → Prop} (W : Wd w b₀ mean mg mb) (gst : b₀.StaysIn g) (R : Room A 2)
    (F : Fr g L s.heap m) (N : News g L s.heap news) (ret : ∀ h' tk' t', Fr g L h' m → News g L h' news → Q (.str (Str.ofString "/") t') { s with heap := h', toks := tk' }) :
    wpAny (model PySem.Challenge.rw_ik0148_01.row.prog w) A (call (.ref 219) [.str p t]) Q E s :=
  getsep_ct W (fun b o e => F.keep b o (gst b o e)) R fun h' tk' t' k => ret h' tk' t' (fr_stay F k) (news_stay N k)
local macro_rules | `(tactic| walk_at "call ref") => `(tactic| (k_here; k_dflt (refine' getsep_K ?k1 ?k2 ⟨rfl, Nat.le_of_ble_eq_true rfl, Nat.le_of_ble_eq_true rfl⟩ ?k3 ?k4 ?_; (case k1 => assumption); (case k2 => assumption); (case k3 => k_asm); (case k4 => k_asm); k_whole); intro h' tk' t' F' N'))

abbrev tup3 (a b c : Value) : Obj := { cls := .type "tuple", data := .seq #[a, b, c] }
theorem splitroot_ct {p : Str} {t : Tok} {Q : Value → Shared → Prop} (W : Wd w b₀ mean mg mb) (stb : b₀.StaysIn s.heap) (R : Room A 6)
    (hp : p.length ≤ 100000) (c1 : (Txt.slice p none (some 1) != Str.ofString "/") = false) (c2 : (Txt.slice p (some 1) (some 2) != Str.ofString "/") = true)
    (ret : ∀ h' tk' D t1 t2 t3, s.heap.StaysIn h' → s.heap.get? D = none → h'.get? D = some (tup3 (.str (Str.ofString "") t1) (.str (Str.ofString "/") t2) (.str (Txt.slice p (some 1) none) t3)) → Q (.ref D) { s with heap := h', toks := tk' }) :
    wpAny (model PySem.Challenge.rw_ik0148_01.row.prog w) A (call (.ref 243) [.str p t]) Q E s := by
  refine R.wp ?_
  have KX := W.K
  revert KX
  k_fill
  intro KX
  refine' enter (binds := [(Str.ofString "p", .str p t)]) [] W stb (fun x hx => nomatch hx) ?ho ?hcd ?hroom ?hbind ?hloc ?_ ?hcell ?hco ?hgen ?hk
  walk_at "my side"
  intro g L h₁ hg hL F hk₁ KG TG
  have gst : b₀.StaysIn g := fun b o e => by rw [hg]; exact stb b o e
  clear KX
  have N : News g L h₁ [] := News.nil
  k_steps
  all_goals try (exfalso; rename ((Txt.slice p none (some 1) != Str.ofString "/") = true) => q; rw [c1] at q; exact Bool.false_ne_true q)
  all_goals try (exfalso; rename ((Txt.slice p (some 1) (some 2) != Str.ofString "/") = false) => q; rw [c2] at q; exact Bool.false_ne_true q.symm)
  rename (Fr _ _ _ _) => F'
  rename (News _ _ _ _) => N'
  have z := N' _ (.head _)
  refine ret _ _ _ _ _ _ (fun b o e => F'.keep b o (hg ▸ e)) ?_ z.1
  have zn := z.2.2
  rw [hg] at zn
  exact zn
theorem splitroot_K {g : Heap} {L : Addr} {m : Str → Option Value} {news : List (Addr × Obj)} {p : Str} {t : Tok} {Q : Value → Shared → Prop} (W : Wd w b₀ mean mg mb) (gst : b₀.StaysIn g) (R : Room A 6)
    (F : Fr g L s.heap m) (N : News g L s.heap news) (hp : p.length ≤ 100000) (c1 : (Txt.slice p none (some 1) != Str.ofString "/") = false) (c2 : (Txt.slice p (some 1) (some 2) != Str.ofString "/") = true)
    (ret : ∀ h' tk' D t1 t2 t3, Fr g L h' m → News g L h' ((D, tup3 (.str (Str.ofString "") t1) (.str (Str.ofString "/") t2) (.str (Txt.slice p (some 1) none) t3)) :: news) → AllNe D news → Q (.ref D) { s with heap := h', toks := tk' }) :
    wpAny (model PySem.Challenge.rw_ik0148_01.row.prog w) A (call (.ref 243) [.str p t]) Q E s :=
  splitroot_ct W (fun b o e => F.keep b o (gst b o e)) R hp c1 c2 fun h' tk' D t1 t2 t3 k hD e => ret h' tk' D t1 t2 t3 (fr_stay F k) (news_add F N k hD e) (allNe_fresh N hD)
end
end TP1
end Mine

namespace Mine
section TP2
open PySem PySem.W PyProof.Rows PySem.Calls
set_option maxRecDepth 100000
set_option maxHeartbeats 1000000
local macro_rules | `(tactic| walk_at "my side") => `(tactic| ((case ho => k_is); (case hcd => k_is); (case hroom => decide); (case hbind => exact BindsTo.of_eq rfl); (case hloc => exact locs rfl); (case hcell => decide); (case hco => rfl); (case hgen => rfl); (case hk => rfl)))
local macro_rules | `(tactic| walk_at "call ref") => `(tactic| (k_here; k_dflt (refine' fspath_K ?k1 ?k2 ⟨rfl, Nat.le_of_ble_eq_true rfl, Nat.le_of_ble_eq_true rfl⟩ ?k3 ?k4 ?_; (case k1 => assumption); (case k2 => assumption); (case k3 => k_asm); (case k4 => k_asm); k_whole); intro h' tk' F' N'))
local macro_rules | `(tactic| walk_at "call ref") => `(tactic| (k_here; k_dflt (refine' splitroot_K ?k1 ?k2 ⟨rfl, Nat.le_of_ble_eq_true rfl, Nat.le_of_ble_eq_true rfl⟩ ?k3 ?k4 ?k5 ?k6 ?k7 ?_; (case k1 => assumption); (case k2 => assumption); (case k3 => k_asm); (case k4 => k_asm); (case k5 => assumption); (case k6 => assumption); (case k7 => assumption); k_whole); intro h' tk' D' t1' t2' t3' F' N' ne'))
local macro_rules | `(tactic| walk_at "exec For Name Name cons nil") => `(tactic| (k_here; refine Stop.intro ?_))
local macro_rules | `(tactic| walk_at "pyIter ref") => `(tactic| (k_here; refine Stop.intro ?_))
local macro_rules | `(tactic| walk_at "call builtin:list.append") => `(tactic| (k_here; (with_reducible show wpAny _ _ (call (Value.builtin _) [Value.ref _, Value.str _ _]) _ _ _); k_dflt (refine' append_str ?k1 ?k2 ?k3 ?k4 ?_; (case k1 => k_asm); (case k2 => k_asm); (case k3 => k_upd); (case k4 => omega); k_whole); intro h' F' N'))
local macro_rules | `(tactic| walk_at "call builtin:list.pop") => `(tactic| (k_here; k_dflt (refine' pop_str (x := Str.ofString "") (t := 0) ?k1 ?k2 ?k3 ?k4 ?k5 ?_; (case k1 => k_asm); (case k2 => k_asm); (case k3 => k_upd); (case k4 => omega); (case k5 => walk_at "my ne"); k_whole); intro h' F' N'))
local macro_rules | `(tactic| walk_at "truthy ref") => `(tactic| (k_here; k_dflt (refine' truthy_str ?k1 ?k2 ?k3 ?_; (case k1 => k_asm); (case k2 => k_mem); (case k3 => omega); k_whole); intro tk'))
local macro_rules | `(tactic| walk_at "subscriptTail") => `(tactic| (k_here; (with_reducible show wpAny _ _ (subscriptTail _ _ (Value.ref _) (Value.int _ _)) _ _ _); k_dflt (refine' last_str (x := Str.ofString "") (t := 0) ?k1 ?k2 ?k3 ?k4 ?_ ?k6; (case k1 => k_asm); (case k2 => k_mem); (case k3 => omega); (case k4 => walk_at "my ne"); (case k6 => with_unfolding_all rfl); k_whole)))
local macro_rules | `(tactic| walk_at "my ne") => `(tactic| (rename (List.isEmpty _ = false) => q; intro e; rw [e] at q; cases q))
local macro_rules | `(tactic| walk_at "call builtin:str.join") => `(tactic| (k_here; k_dflt (refine' join_str (B := 1000) ?k1 ?k2 ?k3 ?k4 ?_; (case k1 => k_asm); (case k2 => k_mem); (case k3 => assumption); (case k4 => assumption); k_whole); intro t' k'))
def nstep (xs : List Str) (c : Str) : List Str :=
  if c = Str.ofString "" ∨ c = Str.ofString "." then xs
  else if c ≠ Str.ofString ".." ∨ (xs ≠ [] ∧ xs.getLastD (Str.ofString "") = Str.ofString "..") then xs ++ [c]
  else xs.dropLast
theorem len_zero {c : Str} (h : (c.length : Int) = 0) : c = Str.ofString "" := by
  obtain ⟨a⟩ := c
  have : a.size = 0 := by simp only [Str.length] at h; omega
  rw [Array.eq_empty_of_size_eq_zero this]
  decide
theorem empty_len : ((Str.ofString "").length : Int) = 0 := by decide
theorem nstep_skip {xs : List Str} {c : Str} (h : c = Str.ofString "" ∨ c = Str.ofString ".") : nstep xs c = xs := if_pos h
theorem nstep_add {xs : List Str} {c : Str} (h : ¬ (c = Str.ofString "" ∨ c = Str.ofString ".")) (h2 : c ≠ Str.ofString ".." ∨ (xs ≠ [] ∧ xs.getLastD (Str.ofString "") = Str.ofString "..")) : nstep xs c = xs ++ [c] := by
  unfold nstep; rw [if_neg h, if_pos h2]
theorem nstep_pop {xs : List Str} {c : Str} (h : ¬ (c = Str.ofString "" ∨ c = Str.ofString ".")) (h2 : ¬ (c ≠ Str.ofString ".." ∨ (xs ≠ [] ∧ xs.getLastD (Str.ofString "") = Str.ofString ".."))) : nstep xs c = xs.dropLast := by
  unfold nstep; rw [if_neg h, if_neg h2]
theorem last_fst (xs : List (Str × Tok)) : (xs.map (·.1)).getLastD (Str.ofString "") = (xs.getLastD (Str.ofString "", 0)).1 := by
  induction xs with
  | nil => rfl
  | cons a r ih =>
    cases r with
    | nil => rfl
    | cons b t => simpa [List.getLastD_cons] using ih
section
variable {w : World} {b₀ : Heap} {mean : ExcName → Option Value} {mg mb : Str → Option Value} {A : Around} {E : Value → Shared → Prop} {s : Shared}
inductive NpI (l' cl : Addr) (l : List (Str × Tok)) (cs : List Str) (t2 u1 u2 u3 : Tok) (i : Nat) (m : Str → Option Value) (news : List (Addr × Obj)) : Prop
  | mk (xs : List (Str × Tok)) (n : Nat) (e : news = [(l', listOf (sls xs) n), (cl, listOf (sls l) 0)]) (e1 : m (Str.ofString "sep") = some (.str (Str.ofString "/") u1)) (e2 : m (Str.ofString "dot") = some (.str (Str.ofString ".") u2)) (e3 : m (Str.ofString "dotdot") = some (.str (Str.ofString "..") u3)) (e4 : m (Str.ofString "initial_slashes") = some (.str (Str.ofString "/") t2))
    (e5 : m (Str.ofString "new_comps") = some (.ref l')) (hm : xs.map (·.1) = (cs.take i).foldl nstep []) (hl : xs.length ≤ i) (hz : ∀ y ∈ xs.map (·.1), y.length ≤ 1000) : NpI l' cl l cs t2 u1 u2 u3 i m news
set_option pp.deepTerms false
set_option pp.deepTerms.threshold 6
theorem normpath_ct {p : Str} {t : Tok} {cs : List Str} {Q : Value → Shared → Prop} (W : Wd w b₀ mean mg mb) (stb : b₀.StaysIn s.heap) (R : Room A 10)
    (hp : p.length ≤ 1000) (hp0 : (p.length : Int) ≠ 0) (c1 : (Txt.slice p none (some 1) != Str.ofString "/") = false) (c2 : (Txt.slice p (some 1) (some 2) != Str.ofString "/") = true)
    (hcs : Txt.split (Txt.slice p (some 1) none) (Str.ofString "/") = cs) (hn : cs.length ≤ 100)
    (ret : ∀ h' tk' t', s.heap.StaysIn h' → Q (.str (Str.ofString "/" ++ Txt.join (Str.ofString "/") (cs.foldl nstep [])) t') { s with heap := h', toks := tk' }) :
    wpAny (model PySem.Challenge.rw_ik0148_01.row.prog w) A (call (.ref 257) [.str p t]) Q E s := by
  refine R.wp ?_
  have KX := W.K
  revert KX
  k_fill
  intro KX
  refine' enter (binds := [(Str.ofString "path", .str p t)]) [] W stb (fun x hx => nomatch hx) ?ho ?hcd ?hroom ?hbind ?hloc ?_ ?hcell ?hco ?hgen ?hk
  walk_at "my side"
  intro g L h₁ hg hL F hk₁ KG TG
  have gst : b₀.StaysIn g := fun b o e => by rw [hg]; exact stb b o e
  have hp5 : p.length ≤ 100000 := by omega
  clear KX
  have N : News g L h₁ [] := News.nil
  k_steps
  · refine Stop.here (wpAny_For ?_ (by intro _; rfl))
    k_steps
    rename_i D' t1 t2 t3 ne1 hA1 hA2 hA3 h4 tk4 l hA4 kk hl hsa hlen hil hA5 l' hA6 l1 hC F' N'
    obtain ⟨cl, hcl⟩ : ∃ x, x = h4.objs.size := ⟨_, rfl⟩
    have hl2 : l.map (·.1) = cs := hl.trans hcs
    have hll : l.length = cs.length := by rw [← hl2, List.length_map]
    have hlt : cl < l' := by rw [hcl]; exact l1.1
    have N2 : News g L hC [(l', listOf (sls []) 0), (cl, listOf (sls l) 0)] := by
      rw [hcl]
      intro q hq
      rcases List.mem_cons.mp hq with rfl | hq
      · exact N' _ (.head _)
      · rw [List.mem_singleton.mp hq]; exact N' _ (.tail _ (.head _))
    have hz : (Txt.slice p (some 1) none).length ≤ 1000 := by omega
    refine Stop.here (iter_list (vs := sls l) rfl (NpI l' cl l cs t2 _ _ _) F' N2 (by show hC.IsList h4.objs.size (sls l); rw [← hcl]; exact ⟨_, (N2 _ (.tail _ (.head _))).1, rfl, _, rfl⟩)
      ⟨[], 0, rfl, rfl, rfl, rfl, rfl, rfl, rfl, Nat.le_refl _, fun _ h => nomatch h⟩ ?_ ?_ ?_)
    · rintro i m' news' h' ⟨xs, n, rfl, _⟩ F1 N1
      show h'.IsList h4.objs.size (sls l)
      rw [← hcl]
      exact ⟨_, (N1 _ (.tail _ (.head _))).1, rfl, _, rfl⟩
    · intro it oi i v m' news' h' tk' hit ne hv hI F1 N1
      refine hideF fun PP hPP => ?_
      revert hit ne F1 N1
      rcases hI with ⟨xs, n, rfl, e1, e2, e3, e4, e5, hx, hxl, hxb⟩
      intro hit ne F1 N1
      have q1 := hit _ (.head _)
      have q2 := hit _ (.tail _ (.head _))
      dsimp only at q1 q2
      replace q1 := ltN q1
      replace q2 := ltN q2
      replace hlt := ltN hlt
      clear hit
      have hil : i < l.length := by
        have := (Array.getElem?_eq_some_iff.mp hv).1
        rwa [sls_size] at this
      obtain ⟨c, tc, hc⟩ : ∃ c tc, l[i]? = some (c, tc) := ⟨_, _, List.getElem?_eq_getElem hil⟩
      obtain rfl : v = .str c tc := by
        simp only [strValues, List.getElem?_toArray, List.getElem?_map, hc, Option.map_some, Option.some.injEq] at hv
        exact hv.symm
      have hcm : c ∈ l.map (·.1) := List.mem_map.mpr ⟨_, List.mem_of_getElem? hc, rfl⟩
      have hcz : c.length ≤ 1000 := Nat.le_trans (hlen c hcm) hz
      have hstep : (cs.take (i + 1)).foldl nstep [] = nstep (xs.map (·.1)) c := by
        rw [hx, List.take_add_one, ← hl2, List.getElem?_map, hc]
        simp
      have F2 := fr_pins F1 [(Str.ofString "sep", .str (Str.ofString "/") _), (Str.ofString "dot", .str (Str.ofString ".") _), (Str.ofString "dotdot", .str (Str.ofString "..") _), (Str.ofString "initial_slashes", .str (Str.ofString "/") t2), (Str.ofString "new_comps", .ref l')] (by simp only [List.forall_mem_cons]; exact ⟨e1, e2, e3, e4, e5, fun _ h => nomatch h⟩)
      clear F' F1 N' N2
      have hxz : xs.length < 1000 := by omega
      have ne' : ∀ o1 o2, ∀ p ∈ [((l', o1) : Addr × Obj), (cl, o2)], p.1 ≠ it := by
        intro o1 o2 q hq
        rcases List.mem_cons.mp hq with rfl | hq
        · exact Nat.ne_of_lt q1
        · rw [List.mem_singleton.mp hq]; exact Nat.ne_of_lt q2
      have hb2 : ∀ y ∈ (xs ++ [(c, tc)]).map (·.1), y.length ≤ 1000 := by
        intro y hy
        rw [List.map_append, List.mem_append] at hy
        rcases hy with hy | hy
        · exact hxb y hy
        · simp only [List.map_cons, List.map_nil, List.mem_singleton] at hy; rw [hy]; exact hcz
      have hb3 : ∀ y ∈ xs.dropLast.map (·.1), y.length ≤ 1000 := by
        intro y hy
        rw [List.map_dropLast] at hy
        exact hxb y (List.dropLast_subset _ hy)
      k_steps
      · rename ((c == Str.ofString ".") = true) => hd
        rename (Fr _ _ _ _) => F3
        rename (News _ _ _ _) => N3
        exact hPP _ _ (Stop.here ⟨_, _, _, _, rfl, F3, N3, ne' _ _, xs, n, rfl, rfl, rfl, rfl, rfl, rfl, by rw [hstep, nstep_skip (.inr (eq_of_beq hd))], by omega, hxb⟩)
      · rename ((c == Str.ofString ".") = false) => hd
        rename ((c.length : Int) ≠ 0) => h0
        rename ((c != Str.ofString "..") = true) => hdd
        rename (Fr _ _ _ _) => F3
        rename (News _ _ _ _) => N3
        exact hPP _ _ (Stop.here ⟨_, _, _, _, rfl, F3, N3, ne' _ _, xs ++ [(c, tc)], n + 1, rfl, rfl, rfl, rfl, rfl, rfl, by
          rw [hstep, nstep_add (fun e => e.elim (fun e => h0 (by rw [e]; exact empty_len)) (fun e => by rw [e] at hd; simp at hd)) (.inl (by simpa using hdd)), List.map_append]; rfl, by rw [List.length_append]; exact Nat.succ_le_succ hxl, hb2⟩)
      all_goals try (rename ((c == Str.ofString ".") = false) => hd)
      all_goals try (rename ((c.length : Int) ≠ 0) => h0)
      all_goals try (rename ((c != Str.ofString "..") = false) => hdd)
      all_goals (rename (Fr _ _ _ _) => F3)
      all_goals (rename (News _ _ _ _) => N3)
      · rename (xs.isEmpty = true) => hemp
        have hx0 : xs = [] := List.isEmpty_iff.mp hemp
        exact hPP _ _ (Stop.here ⟨_, _, _, _, rfl, F3, N3, ne' _ _, xs, n, rfl, rfl, rfl, rfl, rfl, rfl, by
          rw [hstep, nstep_pop (fun e => e.elim (fun e => h0 (by rw [e]; exact empty_len)) (fun e => by rw [e] at hd; simp at hd)) (fun e => e.elim (fun e => e (by simpa using hdd)) (fun e => e.1 (by rw [hx0]; rfl))), hx0]; rfl, by omega, hxb⟩)
      · rename (((xs.getLastD _).1 == _) = true) => hlast
        rename (xs.isEmpty = false) => hne
        exact hPP _ _ (Stop.here ⟨_, _, _, _, rfl, F3, N3, ne' _ _, xs ++ [(c, tc)], n + 1, rfl, rfl, rfl, rfl, rfl, rfl, by
          rw [hstep, nstep_add (fun e => e.elim (fun e => h0 (by rw [e]; exact empty_len)) (fun e => by rw [e] at hd; simp at hd)) (.inr ⟨(fun e => by rw [List.map_eq_nil_iff.mp e] at hne; cases hne), (by rw [last_fst]; exact eq_of_beq hlast)⟩), List.map_append]; rfl, by rw [List.length_append]; exact Nat.succ_le_succ hxl, hb2⟩)
      · rename (((xs.getLastD _).1 == _) = false) => hlast
        exact hPP _ _ (Stop.here ⟨_, _, _, _, rfl, F3, N3, ne' _ _, xs.dropLast, n + 1, rfl, rfl, rfl, rfl, rfl, rfl, by
          rw [hstep, nstep_pop (fun e => e.elim (fun e => h0 (by rw [e]; exact empty_len)) (fun e => by rw [e] at hd; simp at hd)) (fun e => e.elim (fun e => e (by simpa using hdd)) (fun e => by rw [last_fst] at e; rw [e.2] at hlast; simp at hlast)), List.map_dropLast], by rw [List.length_dropLast]; omega, hb3⟩)
      · rename ((c.length : Int) = 0) => h0
        exact hPP _ _ (Stop.here ⟨_, _, _, _, rfl, F3, N3, ne' _ _, xs, n, rfl, rfl, rfl, rfl, rfl, rfl, by rw [hstep, nstep_skip (.inl (len_zero h0))], by omega, hxb⟩)
    · rintro m' news' h' tk' ⟨xs, n, rfl, e1, e2, e3, e4, e5, hx, hxl, hxb⟩ F1 N1
      rw [sls_size, hll] at hx hxl
      rw [List.take_length] at hx
      have F2 := fr_pins F1 [(Str.ofString "sep", .str (Str.ofString "/") _), (Str.ofString "dot", .str (Str.ofString ".") _), (Str.ofString "dotdot", .str (Str.ofString "..") _), (Str.ofString "initial_slashes", .str (Str.ofString "/") t2), (Str.ofString "new_comps", .ref l')] (by simp only [List.forall_mem_cons]; exact ⟨e1, e2, e3, e4, e5, fun _ h => nomatch h⟩)
      clear F' F1 N' N2
      have hj : xs.length * 1000 + xs.length * (Str.ofString "/").length ≤ 16777216 := by
        have : (Str.ofString "/").length = 1 := by decide
        rw [this]; omega
      have hjl : (Txt.join (Str.ofString "/") (xs.map (·.1))).length ≤ 200000 := by
        have := join_len (sep := Str.ofString "/") hxb
        have h1 : (Str.ofString "/").length = 1 := by decide
        rw [h1, List.length_map] at this
        omega
      have hsl : (Str.ofString "/").length = 1 := by decide
      k_steps
      rename (Fr _ _ _ _) => F3
      rw [← hx] at ret
      exact ret _ _ _ (fun b o e => F3.keep b o (hg ▸ e))
  · exfalso; rename ((p.length : Int) = 0) => q; exact hp0 q
end
end TP2
end Mine

namespace Mine
section TJ1
open PySem PySem.W PyProof.Rows PySem.Calls
set_option maxRecDepth 100000
set_option maxHeartbeats 1000000
section
variable {w : World} {b₀ : Heap} {mean : ExcName → Option Value} {mg mb : Str → Option Value} {A : Around} {E : Value → Shared → Prop} {s : Shared}
theorem enter_rest {name qual : Str} {params : Arguments} {body : List Stmt} {scope : Scope} {dV kV doc pm cdv ct oc : Value} {an od : Option Addr} {osl : Array (Option Value)} {f : Addr} {args : List Value} {binds : Addr → List (Str × Value)} {o : Obj} {Q : Value → Shared → Prop}
    (W : Wd w b₀ mean mg mb) (st : b₀.StaysIn s.heap)
    (ho : (KK w.params).lookup f = some ⟨oc, od, .func (fnOf name qual params body scope dV kV doc pm an cdv ct), osl⟩) (hcd : codeIn (KK w.params) cdv qual = true) (hroom : A.depth < recursionLimit)
    (hbind : bindArgs (fnOf name qual params body scope dV kV doc pm an cdv ct) ⟨args, []⟩ = (alloc o >>= fun D => pure (binds D))) (hfree : o.isFreed = false) (hloc : ∀ D, ∀ y ∈ binds D, scope.names.lookup y.1 = some .local)
    (h : ∀ g D L h₁, g = s.heap → Fr g L h₁ (fun y => (binds D).reverse.lookup y) → News g L h₁ [(D, o)] → (KK w.params).In g → TopF mean mg mb g →
      wpAny (model PySem.Challenge.rw_ik0148_01.row.prog w) (A.deeper (envOf qual scope L f cdv)) (execs body (envOf qual scope L f cdv))
        (fun fl s' => Q (match fl with | .ret v => v | _ => .none) s') (fun _ _ => False) { s with heap := h₁, toks := s.toks + (binds D).length })
    (hcell : ∀ x ∈ scope.names, x.2 ≠ .cell) (hco : scope.isCoroutine = false) (hgen : scope.isGenerator = false) (hk : scope.kind = .function) :
    wpAny (model PySem.Challenge.rw_ik0148_01.row.prog w) A (call (.ref f) args) Q E s := by
  refine wpAny_call (codeAny_call_function (fd := fnOf name qual params body scope dV kV doc pm an cdv ct) (body := body) hroom (W.K.keeps st _ _ ho) rfl hco hgen rfl (codeRec_of (W.K.keeps st) hcd) ?_)
  rw [hbind]
  refine wpAny_bind (wpAny_alloc (wpAny_pure (wpAny_newFunctionEnv hcell (hloc _) (fun h₁ hns hsb => ⟨((W.T.nolimit.keeps st).keeps fun b x e => Heap.get?_push_of_some _ e).fresh _ hsb, codeAny_func ?_⟩) hk)))
  have hk₁ : ∀ b x, (s.heap.push o).get? b = some x → h₁.get? b = some x := fun b x e => hsb.extBut b x (Nat.ne_of_lt (Heap.lt_size e)) (Heap.get?_push_of_some _ e)
  have hgn : s.heap.get? s.heap.objs.size = none := by
    cases q : s.heap.get? s.heap.objs.size with
    | none => rfl
    | some o => exact absurd (Heap.lt_size q) (Nat.lt_irrefl _)
  refine wpAny_mono (h s.heap s.heap.objs.size (s.heap.push o).objs.size h₁ rfl ⟨hns, fun b x e => hk₁ b x (Heap.get?_push_of_some _ e), by rw [Heap.size_push]; omega⟩ ?_ (W.K.keeps st) (W.T.keeps st)) (fun fl s' hl => hl) fun _ _ y => y.elim
  intro p hp
  rw [List.mem_singleton.mp hp]
  exact ⟨hk₁ _ _ (Heap.get?_push_size _ hfree), by rw [Heap.size_push]; exact Nat.ne_of_lt (Nat.lt_succ_self _), hgn⟩
end
local macro_rules | `(tactic| walk_at "my side") => `(tactic| ((case ho => k_is); (case hcd => k_is); (case hroom => decide); (case hcell => decide); (case hco => rfl); (case hgen => rfl); (case hk => rfl)))
local macro_rules | `(tactic| walk_at "call ref") => `(tactic| (k_here; k_dflt (refine' fspath_K ?k1 ?k2 ⟨rfl, Nat.le_of_ble_eq_true rfl, Nat.le_of_ble_eq_true rfl⟩ ?k3 ?k4 ?_; (case k1 => assumption); (case k2 => assumption); (case k3 => k_asm); (case k4 => k_asm); k_whole); intro h' tk' F' N'))
local macro_rules | `(tactic| walk_at "call ref") => `(tactic| (k_here; k_dflt (refine' getsep_K ?k1 ?k2 ⟨rfl, Nat.le_of_ble_eq_true rfl, Nat.le_of_ble_eq_true rfl⟩ ?k3 ?k4 ?_; (case k1 => assumption); (case k2 => assumption); (case k3 => k_asm); (case k4 => k_asm); k_whole); intro h' tk' t' F' N'))
section
variable {w : World} {b₀ : Heap} {mean : ExcName → Option Value} {mg mb : Str → Option Value} {A : Around} {E : Value → Shared → Prop} {s : Shared}
set_option pp.deepTerms false
set_option pp.deepTerms.threshold 6
theorem join_ct {x : Str} {t t2 : Tok} {Q : Value → Shared → Prop} (W : Wd w b₀ mean mg mb) (stb : b₀.StaysIn s.heap) (R : Room A 6)
    (hx : x.length ≤ 1000)
    (ret : ∀ h' tk' t', s.heap.StaysIn h' → Q (.str (if Txt.startswith x (Str.ofString "/") = true then x else Str.ofString "/r" ++ (Str.ofString "/" ++ x)) t') { s with heap := h', toks := tk' }) :
    wpAny (model PySem.Challenge.rw_ik0148_01.row.prog w) A (call (.ref 226) [.str (Str.ofString "/r") t, .str x t2]) Q E s := by
  refine R.wp ?_
  have KX := W.K
  revert KX
  k_fill
  intro KX
  refine' enter_rest (binds := fun D => [(Str.ofString "a", .str (Str.ofString "/r") t), (Str.ofString "p", .ref D)]) (o := { cls := .type "tuple", data := .seq #[.str x t2] }) W stb ?ho ?hcd ?hroom ?hbind rfl ?hloc ?_ ?hcell ?hco ?hgen ?hk
  walk_at "my side"
  case hbind => with_unfolding_all rfl
  case hloc => intro D; exact locs rfl
  intro g D L h₁ hg F N KG TG
  have gst : b₀.StaysIn g := fun b o e => by rw [hg]; exact stb b o e
  clear KX
  k_steps
  · rename (Txt.startswith x _ = true) => q
    rename (Fr _ _ _ _) => F3
    rw [if_pos q] at ret
    exact ret _ _ _ (fun b o e => F3.keep b o (hg ▸ e))
  · rename (Txt.startswith x _ = false) => q
    rename (Fr _ _ _ _) => F3
    rw [if_neg (by rw [q]; exact Bool.false_ne_true)] at ret
    exact ret _ _ _ (fun b o e => F3.keep b o (hg ▸ e))
end
end TJ1
end Mine

namespace Mine
section TJ2
open PySem PySem.W PyProof.Rows PySem.Calls
set_option maxRecDepth 100000
set_option maxHeartbeats 1000000
local macro_rules | `(tactic| walk_at "my side") => `(tactic| ((case ho => k_is); (case hcd => k_is); (case hroom => decide); (case hbind => exact BindsTo.of_eq rfl); (case hloc => exact locs rfl); (case hcell => decide); (case hco => rfl); (case hgen => rfl); (case hk => rfl)))
local macro_rules | `(tactic| walk_at "call ref") => `(tactic| (k_here; k_dflt (refine' fspath_K ?k1 ?k2 ⟨rfl, Nat.le_of_ble_eq_true rfl, Nat.le_of_ble_eq_true rfl⟩ ?k3 ?k4 ?_; (case k1 => assumption); (case k2 => assumption); (case k3 => k_asm); (case k4 => k_asm); k_whole); intro h' tk' F' N'))
local macro_rules | `(tactic| walk_at "call ref") => `(tactic| (k_here; k_dflt (refine' getsep_K ?k1 ?k2 ⟨rfl, Nat.le_of_ble_eq_true rfl, Nat.le_of_ble_eq_true rfl⟩ ?k3 ?k4 ?_; (case k1 => assumption); (case k2 => assumption); (case k3 => k_asm); (case k4 => k_asm); k_whole); intro h' tk' t' F' N'))
section
variable {w : World} {b₀ : Heap} {mean : ExcName → Option Value} {mg mb : Str → Option Value} {A : Around} {E : Value → Shared → Prop} {s : Shared}
set_option pp.deepTerms false
set_option pp.deepTerms.threshold 6
theorem basename_ct {x : Str} {t : Tok} {Q : Value → Shared → Prop} (W : Wd w b₀ mean mg mb) (stb : b₀.StaysIn s.heap) (R : Room A 6)
    (hx : x.length ≤ 1000)
    (ret : ∀ h' tk' t', s.heap.StaysIn h' → Q (.str (Txt.slice x (some (Txt.rfind x (Str.ofString "/") + 1)) none) t') { s with heap := h', toks := tk' }) :
    wpAny (model PySem.Challenge.rw_ik0148_01.row.prog w) A (call (.ref 250) [.str x t]) Q E s := by
  refine R.wp ?_
  have KX := W.K
  revert KX
  k_fill
  intro KX
  refine' enter (binds := [(Str.ofString "p", .str x t)]) [] W stb (fun x hx => nomatch hx) ?ho ?hcd ?hroom ?hbind ?hloc ?_ ?hcell ?hco ?hgen ?hk
  walk_at "my side"
  intro g L h₁ hg hL F hk₁ KG TG
  have gst : b₀.StaysIn g := fun b o e => by rw [hg]; exact stb b o e
  clear KX
  have N : News g L h₁ [] := News.nil
  k_steps
  rename (Fr _ _ _ _) => F3
  exact ret _ _ _ (fun b o e => F3.keep b o (hg ▸ e))

abbrev tup2 (a b : Value) : Obj := { cls := .type "tuple", data := .seq #[a, b] }
def names8 : List (Str × Str) := [(Str.ofString "a.py", Str.ofString "a"), (Str.ofString "b.c.py", Str.ofString "b.c"), (Str.ofString "b.c.d.py", Str.ofString "b.c.d"), (Str.ofString "x", Str.ofString "x"),
  (Str.ofString "<string>", Str.ofString "<string>"), (Str.ofString "ab.py", Str.ofString "ab"), (Str.ofString ".x", Str.ofString ".x"), (Str.ofString "..y.py", Str.ofString "..y")]
abbrev dotAt (x : Str) : Int := Txt.rfind x (Str.ofString ".")
abbrev sepAt (x : Str) : Int := Txt.rfind x (Str.ofString "/")
abbrev notDot (x : Str) (j : Int) : Bool := Txt.slice x (some (sepAt x + 1 + 1 * j)) (some (sepAt x + 1 + 1 * j + 1)) != Str.ofString "."
theorem kinds0 : ∀ p ∈ names8, (sepAt p.1 + 1 < dotAt p.1 → Txt.slice p.1 none (some (dotAt p.1)) = p.2) ∧
    ((∃ j ∈ [0, 1, 2], sepAt p.1 + 1 + 1 * (j : Int) < dotAt p.1 ∧ 0 ≤ j ∧ notDot p.1 j = true) ∨ p.1 = p.2) ∧ (¬ dotAt p.1 > sepAt p.1 → p.1 = p.2) ∧ p.1.length ≤ 100 := by decide +kernel
theorem kinds {x r : Str} (h : (x, r) ∈ names8) : (sepAt x + 1 < dotAt x → Txt.slice x none (some (dotAt x)) = r) ∧
    ((∃ j ∈ [0, 1, 2], sepAt x + 1 + 1 * (j : Int) < dotAt x ∧ 0 ≤ j ∧ notDot x j = true) ∨ x = r) ∧ (¬ dotAt x > sepAt x → x = r) ∧ x.length ≤ 100 := kinds0 _ h
theorem splitext5_ct {x r : Str} {t t2 t3 : Tok} {Q : Value → Shared → Prop} (hm : (x, r) ∈ names8) (W : Wd w b₀ mean mg mb) (stb : b₀.StaysIn s.heap) (R : Room A 4)
    (ret : ∀ h' tk' D v t1 t2, s.heap.StaysIn h' → s.heap.get? D = none → h'.get? D = some (tup2 (.str r t1) (.str v t2)) → Q (.ref D) { s with heap := h', toks := tk' }) :
    wpAny (model PySem.Challenge.rw_ik0148_01.row.prog w) A (call (.ref 205) [.str x t, .str (Str.ofString "/") t2, .none, .str (Str.ofString ".") t3]) Q E s := by
  refine R.wp ?_
  have KX := W.K
  revert KX
  k_fill
  intro KX
  refine' enter (binds := [(Str.ofString "p", .str x t), (Str.ofString "sep", .str (Str.ofString "/") t2), (Str.ofString "altsep", .none), (Str.ofString "extsep", .str (Str.ofString ".") t3)]) [] W stb (fun x hx => nomatch hx) ?ho ?hcd ?hroom ?hbind ?hloc ?_ ?hcell ?hco ?hgen ?hk
  walk_at "my side"
  intro g L h₁ hg hL F hk₁ KG TG
  have gst : b₀.StaysIn g := fun b o e => by rw [hg]; exact stb b o e
  clear KX
  have N : News g L h₁ [] := News.nil
  have fin : ∀ h' tk' D u v t1 t2, (∀ b o, g.get? b = some o → h'.get? b = some o) → News g L h' [(D, tup2 (.str u t1) (.str v t2))] → u = r → Q (.ref D) { s with heap := h', toks := tk' } := by
    intro h' tk' D u v t1 t2 k N3 e
    subst e
    have z := N3 _ (.head _)
    exact ret h' tk' D v t1 t2 (fun b o e => k b o (hg ▸ e)) (by have := z.2.2; rw [hg] at this; exact this) z.1
  clear ret
  have hk := kinds hm
  have hl := hk.2.2.2
  clear hm
  k_steps
  · rename (Fr _ _ _ _) => F3
    rename (News _ _ _ _) => N3
    rename (_ + 1 + 1 * _ < _) => hc
    rename (0 ≤ _) => h0
    exact fin _ _ _ _ _ _ _ F3.keep N3 (hk.1 (by show Txt.rfind _ _ + 1 < Txt.rfind _ _; omega))
  · rename (Fr _ _ _ _) => F3
    rename (News _ _ _ _) => N3
    rename (Passed _ _ _) => hP
    rename (_ ≤ _ + 1 + 1 * _) => hc
    refine fin _ _ _ _ _ _ _ F3.keep N3 (hk.2.1.elim (fun ⟨j, _, h1, h2, h3⟩ => ?_) id)
    have : (if notDot x j = true then true else false) = false := (hP j h2 (by simp only [sepAt, dotAt] at h1; omega)).2
    rw [if_pos h3] at this
    cases this
  · rename (Fr _ _ _ _) => F3
    rename (News _ _ _ _) => N3
    exact fin _ _ _ _ _ _ _ F3.keep N3 (hk.2.2.1 (by assumption))
theorem splitext5_K {g : Heap} {L : Addr} {m : Str → Option Value} {news : List (Addr × Obj)} {x r : Str} {t t2 t3 : Tok} {Q : Value → Shared → Prop} (hm : (x, r) ∈ names8) (W : Wd w b₀ mean mg mb) (gst : b₀.StaysIn g) (R : Room A 4)
    (F : Fr g L s.heap m) (N : News g L s.heap news) 
    (ret : ∀ h' tk' D v t1 t2, Fr g L h' m → News g L h' ((D, tup2 (.str r t1) (.str v t2)) :: news) → AllNe D news → Q (.ref D) { s with heap := h', toks := tk' }) :
    wpAny (model PySem.Challenge.rw_ik0148_01.row.prog w) A (call (.ref 205) [.str x t, .str (Str.ofString "/") t2, .none, .str (Str.ofString ".") t3]) Q E s :=
  splitext5_ct hm W (fun b o e => F.keep b o (gst b o e)) R fun h' tk' D v t1 t2 k hD e => ret h' tk' D v t1 t2 (fr_stay F k) (news_add F N k hD e) (allNe_fresh N hD)
local macro_rules | `(tactic| walk_at "call ref") => `(tactic| (k_here; k_dflt (refine' splitext5_K ?k0 ?k1 ?k2 ⟨rfl, Nat.le_of_ble_eq_true rfl, Nat.le_of_ble_eq_true rfl⟩ ?k3 ?k4 ?_; (case k0 => assumption); (case k1 => assumption); (case k2 => assumption); (case k3 => k_asm); (case k4 => k_asm); k_whole); intro h' tk' D' v' t1' t2' F' N' ne'))
theorem splitext_ct {x r : Str} {t : Tok} {Q : Value → Shared → Prop} (hm : (x, r) ∈ names8) (W : Wd w b₀ mean mg mb) (stb : b₀.StaysIn s.heap) (R : Room A 8)
    (ret : ∀ h' tk' D v t1 t2, s.heap.StaysIn h' → s.heap.get? D = none → h'.get? D = some (tup2 (.str r t1) (.str v t2)) → Q (.ref D) { s with heap := h', toks := tk' }) :
    wpAny (model PySem.Challenge.rw_ik0148_01.row.prog w) A (call (.ref 233) [.str x t]) Q E s := by
  refine R.wp ?_
  have KX := W.K
  revert KX
  k_fill
  intro KX
  refine' enter (binds := [(Str.ofString "p", .str x t)]) [] W stb (fun x hx => nomatch hx) ?ho ?hcd ?hroom ?hbind ?hloc ?_ ?hcell ?hco ?hgen ?hk
  walk_at "my side"
  intro g L h₁ hg hL F hk₁ KG TG
  have gst : b₀.StaysIn g := fun b o e => by rw [hg]; exact stb b o e
  clear KX
  have N : News g L h₁ [] := News.nil
  k_steps
  rename (Fr _ _ _ _) => F3
  rename (News _ _ _ _) => N3
  have z := N3 _ (.head _)
  exact ret _ _ _ _ _ _ (fun b o e => F3.keep b o (hg ▸ e)) (by have := z.2.2; rw [hg] at this; exact this) z.1
end
end TJ2
end Mine

namespace Mine
section TK1
open PySem PySem.W PyProof.Rows PySem.Calls
set_option maxRecDepth 100000
set_option maxHeartbeats 1000000
section
variable {w : World} {b₀ : Heap} {mean : ExcName → Option Value} {mg mb : Str → Option Value} {A : Around} {E : Value → Shared → Prop} {s : Shared}
theorem enter_rest2 {name qual : Str} {params : Arguments} {body : List Stmt} {scope : Scope} {dV kV doc pm cdv ct oc : Value} {an od : Option Addr} {osl : Array (Option Value)} {f : Addr} {args : List Value} {binds : Addr → Addr → List (Str × Value)} {o o2 : Obj} {Q : Value → Shared → Prop}
    (W : Wd w b₀ mean mg mb) (st : b₀.StaysIn s.heap)
    (ho : (KK w.params).lookup f = some ⟨oc, od, .func (fnOf name qual params body scope dV kV doc pm an cdv ct), osl⟩) (hcd : codeIn (KK w.params) cdv qual = true) (hroom : A.depth < recursionLimit)
    (hbind : bindArgs (fnOf name qual params body scope dV kV doc pm an cdv ct) ⟨args, []⟩ = (alloc o >>= fun D => alloc o2 >>= fun D2 => pure (binds D D2))) (hfree : o.isFreed = false) (hfree2 : o2.isFreed = false) (hloc : ∀ D D2, ∀ y ∈ binds D D2, scope.names.lookup y.1 = some .local)
    (h : ∀ g D D2 L h₁, g = s.heap → s.heap.objs.size ≤ D → D < D2 → Fr g L h₁ (fun y => (binds D D2).reverse.lookup y) → News g L h₁ [(D2, o2), (D, o)] → (KK w.params).In g → TopF mean mg mb g →
      wpAny (model PySem.Challenge.rw_ik0148_01.row.prog w) (A.deeper (envOf qual scope L f cdv)) (execs body (envOf qual scope L f cdv))
        (fun fl s' => Q (match fl with | .ret v => v | _ => .none) s') (fun _ _ => False) { s with heap := h₁, toks := s.toks + (binds D D2).length })
    (hcell : ∀ x ∈ scope.names, x.2 ≠ .cell) (hco : scope.isCoroutine = false) (hgen : scope.isGenerator = false) (hk : scope.kind = .function) :
    wpAny (model PySem.Challenge.rw_ik0148_01.row.prog w) A (call (.ref f) args) Q E s := by
  refine wpAny_call (codeAny_call_function (fd := fnOf name qual params body scope dV kV doc pm an cdv ct) (body := body) hroom (W.K.keeps st _ _ ho) rfl hco hgen rfl (codeRec_of (W.K.keeps st) hcd) ?_)
  rw [hbind]
  refine wpAny_bind (wpAny_alloc (wpAny_bind (wpAny_alloc (wpAny_pure (wpAny_newFunctionEnv hcell (hloc _ _) (fun h₁ hns hsb => ⟨((W.T.nolimit.keeps st).keeps fun b x e => Heap.get?_push_of_some _ (Heap.get?_push_of_some _ e)).fresh _ hsb, codeAny_func ?_⟩) hk)))))
  have hk₁ : ∀ b x, ((s.heap.push o).push o2).get? b = some x → h₁.get? b = some x := fun b x e => hsb.extBut b x (Nat.ne_of_lt (Heap.lt_size e)) (Heap.get?_push_of_some _ e)
  have hgn : ∀ b, s.heap.objs.size ≤ b → s.heap.get? b = none := fun b hb => by
    cases q : s.heap.get? b with
    | none => rfl
    | some o => exact absurd (Nat.lt_of_lt_of_le (Heap.lt_size q) hb) (Nat.lt_irrefl _)
  have hz1 := Heap.size_push s.heap o
  have hz2 := Heap.size_push (s.heap.push o) o2
  refine wpAny_mono (h s.heap s.heap.objs.size (s.heap.push o).objs.size ((s.heap.push o).push o2).objs.size h₁ rfl (Nat.le_refl _) (by rw [hz1]; exact Nat.lt_succ_self _) ⟨hns, fun b x e => hk₁ b x (Heap.get?_push_of_some _ (Heap.get?_push_of_some _ e)), by rw [hz2, hz1]; omega⟩ ?_ (W.K.keeps st) (W.T.keeps st)) (fun fl s' hl => hl) fun _ _ y => y.elim
  intro p hp
  rcases List.mem_cons.mp hp with rfl | hp
  · exact ⟨hk₁ _ _ (Heap.get?_push_size _ hfree2), by rw [hz2]; exact Nat.ne_of_lt (Nat.lt_succ_self _), hgn _ (by rw [hz1]; exact Nat.le_succ _)⟩
  · rw [List.mem_singleton.mp hp]
    exact ⟨hk₁ _ _ (Heap.get?_push_of_some _ (Heap.get?_push_size _ hfree)), by rw [hz2, hz1]; exact Nat.ne_of_lt (by omega), hgn _ (Nat.le_refl _)⟩
end
section
variable {prog : Program} {w : World} {A : Around} {E : Value → Shared → Prop} {s : Shared}
abbrev emptyDict : Obj := { cls := .type "dict", data := .dict #[] }
theorem emptyDict_of {h : Heap} {d : Addr} (e : h.get? d = some emptyDict) : h.DictOf (PySem.strKind prog w) d [] :=
  ⟨_, #[], 0, e, ⟨rfl, rfl, rfl⟩, rfl, fun _ he => by simp at he, Pairs.nil, List.nodup_nil⟩
theorem truthy_empty {h₀ : Heap} {L d : Addr} {news : List (Addr × Obj)} {Q : Bool → Shared → Prop} (N : News h₀ L s.heap news) (hm : (d, emptyDict) ∈ news) (hd : (d == sysModules) = false)
    (h : ∀ tk, Q false { s with toks := tk }) : wpAny (model prog w) A (truthy (.ref d)) Q E s :=
  wpAny_truthy_dict (kvs := []) hd (emptyDict_of (prog := prog) (w := w) (N _ hm).1) (by simp) (h _)
end
local macro_rules | `(tactic| walk_at "my side") => `(tactic| ((case ho => k_is); (case hcd => k_is); (case hroom => decide); (case hcell => decide); (case hco => rfl); (case hgen => rfl); (case hk => rfl)))
local macro_rules | `(tactic| walk_at "call ref") => `(tactic| (k_here; refine Stop.intro ?_))
section
variable {w : World} {b₀ : Heap} {mean : ExcName → Option Value} {mg mb : Str → Option Value} {A : Around} {E : Value → Shared → Prop} {s : Shared}
set_option pp.deepTerms false
set_option pp.deepTerms.threshold 6
theorem kind_ct {x n : Str} {t t2 : Tok} {Q : Value → Shared → Prop} (W : Wd w b₀ mean mg mb) (stb : b₀.StaysIn s.heap) (R : Room A 2)
    (ret : ∀ h' tk' t', s.heap.StaysIn h' → Q (.str (Str.ofString "") t') { s with heap := h', toks := tk' }) :
    wpAny (model PySem.Challenge.rw_ik0148_01.row.prog w) A (call (.ref 108) [.str n t2, .str x t]) Q E s := by
  refine R.wp ?_
  have KX := W.K
  revert KX
  k_fill
  intro KX
  refine' enter (binds := [(Str.ofString "name", .str n t2), (Str.ofString "x", .str x t)]) [] W stb (fun x hx => nomatch hx) ?ho ?hcd ?hroom ?hbind ?hloc ?_ ?hcell ?hco ?hgen ?hk
  walk_at "my side"
  case hbind => exact BindsTo.of_eq rfl
  case hloc => exact locs rfl
  intro g L h₁ hg hL F hk₁ KG TG
  clear KX
  have N : News g L h₁ [] := News.nil
  k_steps
  rename (Fr _ _ _ _) => F3
  exact ret _ _ _ (fun b o e => F3.keep b o (hg ▸ e))
theorem kind_K {g : Heap} {L : Addr} {m : Str → Option Value} {news : List (Addr × Obj)} {x n : Str} {t t2 : Tok} {Q : Value → Shared → Prop} (W : Wd w b₀ mean mg mb) (gst : b₀.StaysIn g) (R : Room A 2)
    (F : Fr g L s.heap m) (N : News g L s.heap news) (ret : ∀ h' tk' t', Fr g L h' m → News g L h' news → Q (.str (Str.ofString "") t') { s with heap := h', toks := tk' }) :
    wpAny (model PySem.Challenge.rw_ik0148_01.row.prog w) A (call (.ref 108) [.str n t2, .str x t]) Q E s :=
  kind_ct W (fun b o e => F.keep b o (gst b o e)) R fun h' tk' t' k => ret h' tk' t' (fr_stay F k) (news_stay N k)
local macro_rules | `(tactic| walk_at "call ref") => `(tactic| (k_here; k_dflt (refine' kind_K ?k1 ?k2 ⟨rfl, Nat.le_of_ble_eq_true rfl, Nat.le_of_ble_eq_true rfl⟩ ?k3 ?k4 ?_; (case k1 => assumption); (case k2 => assumption); (case k3 => k_asm); (case k4 => k_asm); k_whole); intro h' tk' t' F' N'))
local macro_rules | `(tactic| walk_at "truthy ref") => `(tactic| (k_here; k_dflt (refine' truthy_empty ?k1 ?k2 ?k3 ?_; (case k1 => k_asm); (case k2 => k_mem); (case k3 => assumption); k_whole); intro tk'))
theorem cpath_ct {x : Str} {D D2 : Addr} {t t1 t2 t3 : Tok} {Q : Value → Shared → Prop} (W : Wd w b₀ mean mg mb) (stb : b₀.StaysIn s.heap) (R : Room A 6)
    (h1 : s.heap.get? D = some { cls := .type "tuple", data := .seq #[.str x t] }) (h2 : s.heap.get? D2 = some emptyDict) (n1 : b₀.get? D = none) (n2 : b₀.get? D2 = none) (hDD : D < D2) (hs : (D2 == sysModules) = false)
    (ret : ∀ h' tk', Kept [D2, D] s.heap h' → h'.get? D = s.heap.get? D → h'.get? D2 = s.heap.get? D2 → Q (.str x t) { s with heap := h', toks := tk' }) :
    wpAny (model PySem.Challenge.rw_ik0148_01.row.prog w) A (call (.ref 115) [.str (Str.ofString "normpath") t1, .str (Str.ofString "_path_normpath") t2, .str (Str.ofString "path") t3, .ref D, .ref D2]) Q E s := by
  refine R.wp ?_
  have KX := W.K
  revert KX
  k_fill
  intro KX
  refine' enter (binds := [(Str.ofString "name", .str (Str.ofString "normpath") t1), (Str.ofString "cname", .str (Str.ofString "_path_normpath") t2), (Str.ofString "argname", .str (Str.ofString "path") t3), (Str.ofString "args", .ref D), (Str.ofString "kwargs", .ref D2)]) [D2, D] W stb ?hX ?ho ?hcd ?hroom ?hbind ?hloc ?_ ?hcell ?hco ?hgen ?hk
  walk_at "my side"
  case hbind => exact BindsTo.of_eq rfl
  case hloc => exact locs rfl
  case hX =>
    intro y hy
    rcases List.mem_cons.mp hy with rfl | hy
    · exact n2
    · rw [List.mem_singleton.mp hy]; exact n1
  intro g L h₁ hg hL F hk₁ KG TG
  clear KX
  have N : News g L h₁ [(D2, emptyDict), (D, { cls := .type "tuple", data := .seq #[.str x t] })] := by
    intro q hq
    rcases List.mem_cons.mp hq with rfl | hq
    · exact ⟨hk₁ _ _ h2, by rw [hL]; exact Nat.ne_of_lt (Heap.lt_size h2), by rw [hg]; exact hideAll_none _ (.head _)⟩
    · rw [List.mem_singleton.mp hq]
      exact ⟨hk₁ _ _ h1, by rw [hL]; exact Nat.ne_of_lt (Heap.lt_size h1), by rw [hg]; exact hideAll_none _ (.tail _ (.head _))⟩
  have hk₂ : Kept [D2, D] s.heap g := fun b o nb e => by rw [hg]; exact hideAll_get _ e nb
  have gst : b₀.StaysIn g := fun b o e => hk₂ b o (fun q => by
    rcases List.mem_cons.mp q with q | q
    · rw [q, n2] at e; cases e
    · rw [List.mem_singleton.mp q, n1] at e; cases e) (stb b o e)
  k_steps
  rename (Fr _ _ _ _) => F3
  rename (News _ _ _ _) => N3
  exact ret _ _ (fun b o nb e => F3.keep b o (hk₂ b o nb e)) ((N3 _ (.tail _ (.head _))).1.trans h1.symm) ((N3 _ (.head _)).1.trans h2.symm)
end
end TK1
end Mine

namespace Mine
section TK2
open PySem PySem.W PyProof.Rows PySem.Calls
set_option maxRecDepth 100000
set_option maxHeartbeats 1000000
local macro_rules | `(tactic| walk_at "my side") => `(tactic| ((case ho => k_is); (case hcd => k_is); (case hroom => decide); (case hbind => exact BindsTo.of_eq rfl); (case hloc => exact locs rfl); (case hcell => decide); (case hco => rfl); (case hgen => rfl); (case hk => rfl)))
local macro_rules | `(tactic| walk_at "exec For Name Name cons nil") => `(tactic| (k_here; refine Stop.intro ?_))
local macro_rules | `(tactic| walk_at "pyIter ref") => `(tactic| (k_here; refine Stop.intro ?_))
local macro_rules | `(tactic| walk_at "call builtin:list.append") => `(tactic| (k_here; (with_reducible show wpAny _ _ (call (Value.builtin _) [Value.ref _, Value.str _ _]) _ _ _); k_dflt (refine' append_str ?k1 ?k2 ?k3 ?k4 ?_; (case k1 => k_asm); (case k2 => k_asm); (case k3 => k_upd); (case k4 => omega); k_whole); intro h' F' N'))
local macro_rules | `(tactic| walk_at "call builtin:list.pop") => `(tactic| (k_here; k_dflt (refine' pop_str (x := Str.ofString "") (t := 0) ?k1 ?k2 ?k3 ?k4 ?k5 ?_; (case k1 => k_asm); (case k2 => k_asm); (case k3 => k_upd); (case k4 => omega); (case k5 => walk_at "my ne"); k_whole); intro h' F' N'))
local macro_rules | `(tactic| walk_at "truthy ref") => `(tactic| (k_here; k_dflt (refine' truthy_str ?k1 ?k2 ?k3 ?_; (case k1 => k_asm); (case k2 => k_mem); (case k3 => omega); k_whole); intro tk'))
local macro_rules | `(tactic| walk_at "subscriptTail") => `(tactic| (k_here; (with_reducible show wpAny _ _ (subscriptTail _ _ (Value.ref _) (Value.int _ _)) _ _ _); k_dflt (refine' last_str (x := Str.ofString "") (t := 0) ?k1 ?k2 ?k3 ?k4 ?_ ?k6; (case k1 => k_asm); (case k2 => k_mem); (case k3 => omega); (case k4 => walk_at "my ne"); (case k6 => with_unfolding_all rfl); k_whole)))
local macro_rules | `(tactic| walk_at "my ne") => `(tactic| (rename (List.isEmpty _ = false) => q; intro e; rw [e] at q; cases q))
local macro_rules | `(tactic| walk_at "call builtin:str.join") => `(tactic| (k_here; k_dflt (refine' join_str (B := 1000) ?k1 ?k2 ?k3 ?k4 ?_; (case k1 => k_asm); (case k2 => k_mem); (case k3 => assumption); (case k4 => assumption); k_whole); intro t' k'))
section
variable {w : World} {b₀ : Heap} {mean : ExcName → Option Value} {mg mb : Str → Option Value} {A : Around} {E : Value → Shared → Prop} {s : Shared}
set_option pp.deepTerms false
set_option pp.deepTerms.threshold 6
theorem shelf_ct {x : Str} {t : Tok} {Q : Value → Shared → Prop} (W : Wd w b₀ mean mg mb) (stb : b₀.StaysIn s.heap) (R : Room A 2) (hx : x.length ≤ 1000000)
    (ret : ∀ h' tk' t', s.heap.StaysIn h' → Q (.str x t') { s with heap := h', toks := tk' }) :
    wpAny (model PySem.Challenge.rw_ik0148_01.row.prog w) A (call (.ref 122) [.str x t]) Q E s := by
  refine R.wp ?_
  have KX := W.K
  revert KX
  k_fill
  intro KX
  refine' enter (binds := [(Str.ofString "s", .str x t)]) [] W stb (fun x hx => nomatch hx) ?ho ?hcd ?hroom ?hbind ?hloc ?_ ?hcell ?hco ?hgen ?hk
  walk_at "my side"
  intro g L h₁ hg hL F hk₁ KG TG
  clear KX
  have N : News g L h₁ [] := News.nil
  have hxs : (x ++ Str.ofString "/").length = x.length + 1 := by rw [len_append, slash_len]
  k_steps
  rename (Fr _ _ _ _) => F3
  rw [← shelf_slice x] at ret
  exact ret _ _ _ (fun b o e => F3.keep b o (hg ▸ e))
theorem splitroot129_ct {p : Str} {t : Tok} {Q : Value → Shared → Prop} (W : Wd w b₀ mean mg mb) (stb : b₀.StaysIn s.heap) (R : Room A 6)
    (hp : p.length ≤ 100000) (c1 : (Txt.slice p none (some 1) != Str.ofString "/") = false) (c2 : (Txt.slice p (some 1) (some 2) != Str.ofString "/") = true)
    (ret : ∀ h' tk' D t1 t2 t3, s.heap.StaysIn h' → s.heap.get? D = none → h'.get? D = some (tup3 (.str (Str.ofString "") t1) (.str (Str.ofString "/") t2) (.str (Txt.slice p (some 1) none) t3)) → Q (.ref D) { s with heap := h', toks := tk' }) :
    wpAny (model PySem.Challenge.rw_ik0148_01.row.prog w) A (call (.ref 129) [.str p t]) Q E s := by
  refine R.wp ?_
  have KX := W.K
  revert KX
  k_fill
  intro KX
  refine' enter (binds := [(Str.ofString "p", .str p t)]) [] W stb (fun x hx => nomatch hx) ?ho ?hcd ?hroom ?hbind ?hloc ?_ ?hcell ?hco ?hgen ?hk
  walk_at "my side"
  intro g L h₁ hg hL F hk₁ KG TG
  clear KX
  have N : News g L h₁ [] := News.nil
  k_steps
  rename (Fr _ _ _ _) => F'
  rename (News _ _ _ _) => N'
  have z := N' _ (.head _)
  refine ret _ _ _ _ _ _ (fun b o e => F'.keep b o (hg ▸ e)) ?_ z.1
  have zn := z.2.2
  rw [hg] at zn
  exact zn
theorem splitroot129_K {g : Heap} {L : Addr} {m : Str → Option Value} {news : List (Addr × Obj)} {p : Str} {t : Tok} {Q : Value → Shared → Prop} (W : Wd w b₀ mean mg mb) (gst : b₀.StaysIn g) (R : Room A 6)
    (F : Fr g L s.heap m) (N : News g L s.heap news) (hp : p.length ≤ 100000) (c1 : (Txt.slice p none (some 1) != Str.ofString "/") = false) (c2 : (Txt.slice p (some 1) (some 2) != Str.ofString "/") = true)
    (ret : ∀ h' tk' D t1 t2 t3, Fr g L h' m → News g L h' ((D, tup3 (.str (Str.ofString "") t1) (.str (Str.ofString "/") t2) (.str (Txt.slice p (some 1) none) t3)) :: news) → AllNe D news → Q (.ref D) { s with heap := h', toks := tk' }) :
    wpAny (model PySem.Challenge.rw_ik0148_01.row.prog w) A (call (.ref 129) [.str p t]) Q E s :=
  splitroot129_ct W (fun b o e => F.keep b o (gst b o e)) R hp c1 c2 fun h' tk' D t1 t2 t3 k hD e => ret h' tk' D t1 t2 t3 (fr_stay F k) (news_add F N k hD e) (allNe_fresh N hD)
theorem shelf_K {g : Heap} {L : Addr} {m : Str → Option Value} {news : List (Addr × Obj)} {x : Str} {t : Tok} {Q : Value → Shared → Prop} (W : Wd w b₀ mean mg mb) (gst : b₀.StaysIn g) (R : Room A 2)
    (F : Fr g L s.heap m) (N : News g L s.heap news) (hx : x.length ≤ 1000000) (ret : ∀ h' tk' t', Fr g L h' m → News g L h' news → Q (.str x t') { s with heap := h', toks := tk' }) :
    wpAny (model PySem.Challenge.rw_ik0148_01.row.prog w) A (call (.ref 122) [.str x t]) Q E s :=
  shelf_ct W (fun b o e => F.keep b o (gst b o e)) R hx fun h' tk' t' k => ret h' tk' t' (fr_stay F k) (news_stay N k)
end
section
variable {w : World} {b₀ : Heap} {mean : ExcName → Option Value} {mg mb : Str → Option Value} {A : Around} {E : Value → Shared → Prop} {s : Shared}
set_option pp.deepTerms false
set_option pp.deepTerms.threshold 6
local macro_rules | `(tactic| walk_at "call ref") => `(tactic| (k_here; k_dflt (refine' splitroot129_K ?k1 ?k2 ⟨rfl, Nat.le_of_ble_eq_true rfl, Nat.le_of_ble_eq_true rfl⟩ ?k3 ?k4 ?k5 ?k6 ?k7 ?_; (case k1 => assumption); (case k2 => assumption); (case k3 => k_asm); (case k4 => k_asm); (case k5 => assumption); (case k6 => assumption); (case k7 => assumption); k_whole); intro h' tk' D' t1' t2' t3' F' N' ne'))
local macro_rules | `(tactic| walk_at "call ref") => `(tactic| (k_here; k_dflt (refine' shelf_K ?k1 ?k2 ⟨rfl, Nat.le_of_ble_eq_true rfl, Nat.le_of_ble_eq_true rfl⟩ ?k3 ?k4 ?k5 ?_; (case k1 => assumption); (case k2 => assumption); (case k3 => k_asm); (case k4 => k_asm); (case k5 => rw [len_append]; omega); k_whole); intro h' tk' t' F' N'))
inductive NqI (l' cl : Addr) (l : List (Str × Tok)) (cs : List Str) (t2 u1 u2 u3 : Tok) (i : Nat) (m : Str → Option Value) (news : List (Addr × Obj)) : Prop
  | mk (xs : List (Str × Tok)) (n : Nat) (e : news = [(l', listOf (sls xs) n), (cl, listOf (sls l) 0)]) (e1 : m (Str.ofString "sep") = some (.str (Str.ofString "/") u1)) (e2 : m (Str.ofString "dot") = some (.str (Str.ofString ".") u2)) (e3 : m (Str.ofString "dotdot") = some (.str (Str.ofString "..") u3)) (e4 : m (Str.ofString "initial_slashes") = some (.str (Str.ofString "/") t2))
    (e5 : m (Str.ofString "new_comps") = some (.ref l')) (hm : xs.map (·.1) = (cs.take i).foldl nstep []) (hl : xs.length ≤ i) (hz : ∀ y ∈ xs.map (·.1), y.length ≤ 1000) : NqI l' cl l cs t2 u1 u2 u3 i m news
theorem normpath136_ct {p : Str} {t : Tok} {cs : List Str} {Q : Value → Shared → Prop} (W : Wd w b₀ mean mg mb) (stb : b₀.StaysIn s.heap) (R : Room A 10)
    (hp : p.length ≤ 1000) (hp0 : (p.length : Int) ≠ 0) (c1 : (Txt.slice p none (some 1) != Str.ofString "/") = false) (c2 : (Txt.slice p (some 1) (some 2) != Str.ofString "/") = true)
    (hcs : Txt.split (Txt.slice p (some 1) none) (Str.ofString "/") = cs) (hn : cs.length ≤ 100)
    (ret : ∀ h' tk' t', s.heap.StaysIn h' → Q (.str (Str.ofString "/" ++ Txt.join (Str.ofString "/") (cs.foldl nstep [])) t') { s with heap := h', toks := tk' }) :
    wpAny (model PySem.Challenge.rw_ik0148_01.row.prog w) A (call (.ref 136) [.str p t]) Q E s := by
  refine R.wp ?_
  have KX := W.K
  revert KX
  k_fill
  intro KX
  refine' enter (binds := [(Str.ofString "path", .str p t)]) [] W stb (fun x hx => nomatch hx) ?ho ?hcd ?hroom ?hbind ?hloc ?_ ?hcell ?hco ?hgen ?hk
  walk_at "my side"
  intro g L h₁ hg hL F hk₁ KG TG
  have gst : b₀.StaysIn g := fun b o e => by rw [hg]; exact stb b o e
  have hp5 : p.length ≤ 100000 := by omega
  clear KX
  have N : News g L h₁ [] := News.nil
  k_steps
  · refine Stop.here (wpAny_For ?_ (by intro _; rfl))
    k_steps
    rename_i D' t1 t2 t3 ne1 hA1 hA2 hA3 h4 tk4 l hA4 kk hl hsa hlen hil hA5 l' hA6 l1 hC F' N'
    obtain ⟨cl, hcl⟩ : ∃ x, x = h4.objs.size := ⟨_, rfl⟩
    have hl2 : l.map (·.1) = cs := hl.trans hcs
    have hll : l.length = cs.length := by rw [← hl2, List.length_map]
    have hlt : cl < l' := by rw [hcl]; exact l1.1
    have N2 : News g L hC [(l', listOf (sls []) 0), (cl, listOf (sls l) 0)] := by
      rw [hcl]
      intro q hq
      rcases List.mem_cons.mp hq with rfl | hq
      · exact N' _ (.head _)
      · rw [List.mem_singleton.mp hq]; exact N' _ (.tail _ (.head _))
    have hz : (Txt.slice p (some 1) none).length ≤ 1000 := by omega
    refine Stop.here (iter_list (vs := sls l) rfl (NqI l' cl l cs t2 _ _ _) F' N2 (by show hC.IsList h4.objs.size (sls l); rw [← hcl]; exact ⟨_, (N2 _ (.tail _ (.head _))).1, rfl, _, rfl⟩)
      ⟨[], 0, rfl, rfl, rfl, rfl, rfl, rfl, rfl, Nat.le_refl _, fun _ h => nomatch h⟩ ?_ ?_ ?_)
    · rintro i m' news' h' ⟨xs, n, rfl, _⟩ F1 N1
      show h'.IsList h4.objs.size (sls l)
      rw [← hcl]
      exact ⟨_, (N1 _ (.tail _ (.head _))).1, rfl, _, rfl⟩
    · intro it oi i v m' news' h' tk' hit ne hv hI F1 N1
      refine hideF fun PP hPP => ?_
      revert hit ne F1 N1
      rcases hI with ⟨xs, n, rfl, e1, e2, e3, e4, e5, hx, hxl, hxb⟩
      intro hit ne F1 N1
      have q1 := hit _ (.head _)
      have q2 := hit _ (.tail _ (.head _))
      dsimp only at q1 q2
      replace q1 := ltN q1
      replace q2 := ltN q2
      replace hlt := ltN hlt
      clear hit
      have hil : i < l.length := by
        have := (Array.getElem?_eq_some_iff.mp hv).1
        rwa [sls_size] at this
      obtain ⟨c, tc, hc⟩ : ∃ c tc, l[i]? = some (c, tc) := ⟨_, _, List.getElem?_eq_getElem hil⟩
      obtain rfl : v = .str c tc := by
        simp only [strValues, List.getElem?_toArray, List.getElem?_map, hc, Option.map_some, Option.some.injEq] at hv
        exact hv.symm
      have hcm : c ∈ l.map (·.1) := List.mem_map.mpr ⟨_, List.mem_of_getElem? hc, rfl⟩
      have hcz : c.length ≤ 1000 := Nat.le_trans (hlen c hcm) hz
      have hstep : (cs.take (i + 1)).foldl nstep [] = nstep (xs.map (·.1)) c := by
        rw [hx, List.take_add_one, ← hl2, List.getElem?_map, hc]
        simp
      have F2 := fr_pins F1 [(Str.ofString "sep", .str (Str.ofString "/") _), (Str.ofString "dot", .str (Str.ofString ".") _), (Str.ofString "dotdot", .str (Str.ofString "..") _), (Str.ofString "initial_slashes", .str (Str.ofString "/") t2), (Str.ofString "new_comps", .ref l')] (by simp only [List.forall_mem_cons]; exact ⟨e1, e2, e3, e4, e5, fun _ h => nomatch h⟩)
      clear F' F1 N' N2
      have hxz : xs.length < 1000 := by omega
      have ne' : ∀ o1 o2, ∀ p ∈ [((l', o1) : Addr × Obj), (cl, o2)], p.1 ≠ it := by
        intro o1 o2 q hq
        rcases List.mem_cons.mp hq with rfl | hq
        · exact Nat.ne_of_lt q1
        · rw [List.mem_singleton.mp hq]; exact Nat.ne_of_lt q2
      have hb2 : ∀ y ∈ (xs ++ [(c, tc)]).map (·.1), y.length ≤ 1000 := by
        intro y hy
        rw [List.map_append, List.mem_append] at hy
        rcases hy with hy | hy
        · exact hxb y hy
        · simp only [List.map_cons, List.map_nil, List.mem_singleton] at hy; rw [hy]; exact hcz
      have hb3 : ∀ y ∈ xs.dropLast.map (·.1), y.length ≤ 1000 := by
        intro y hy
        rw [List.map_dropLast] at hy
        exact hxb y (List.dropLast_subset _ hy)
      k_steps
      · rename ((c == Str.ofString ".") = true) => hd
        rename (Fr _ _ _ _) => F3
        rename (News _ _ _ _) => N3
        exact hPP _ _ (Stop.here ⟨_, _, _, _, rfl, F3, N3, ne' _ _, xs, n, rfl, rfl, rfl, rfl, rfl, rfl, by rw [hstep, nstep_skip (.inr (eq_of_beq hd))], by omega, hxb⟩)
      · rename ((c == Str.ofString ".") = false) => hd
        rename ((c.length : Int) ≠ 0) => h0
        rename ((c != Str.ofString "..") = true) => hdd
        rename (Fr _ _ _ _) => F3
        rename (News _ _ _ _) => N3
        exact hPP _ _ (Stop.here ⟨_, _, _, _, rfl, F3, N3, ne' _ _, xs ++ [(c, tc)], n + 1, rfl, rfl, rfl, rfl, rfl, rfl, by
          rw [hstep, nstep_add (fun e => e.elim (fun e => h0 (by rw [e]; exact empty_len)) (fun e => by rw [e] at hd; simp at hd)) (.inl (by simpa using hdd)), List.map_append]; rfl, by rw [List.length_append]; exact Nat.succ_le_succ hxl, hb2⟩)
      all_goals try (rename ((c == Str.ofString ".") = false) => hd)
      all_goals try (rename ((c.length : Int) ≠ 0) => h0)
      all_goals try (rename ((c != Str.ofString "..") = false) => hdd)
      all_goals (rename (Fr _ _ _ _) => F3)
      all_goals (rename (News _ _ _ _) => N3)
      · rename (xs.isEmpty = true) => hemp
        have hx0 : xs = [] := List.isEmpty_iff.mp hemp
        exact hPP _ _ (Stop.here ⟨_, _, _, _, rfl, F3, N3, ne' _ _, xs, n, rfl, rfl, rfl, rfl, rfl, rfl, by
          rw [hstep, nstep_pop (fun e => e.elim (fun e => h0 (by rw [e]; exact empty_len)) (fun e => by rw [e] at hd; simp at hd)) (fun e => e.elim (fun e => e (by simpa using hdd)) (fun e => e.1 (by rw [hx0]; rfl))), hx0]; rfl, by omega, hxb⟩)
      · rename (((xs.getLastD _).1 == _) = true) => hlast
        rename (xs.isEmpty = false) => hne
        exact hPP _ _ (Stop.here ⟨_, _, _, _, rfl, F3, N3, ne' _ _, xs ++ [(c, tc)], n + 1, rfl, rfl, rfl, rfl, rfl, rfl, by
          rw [hstep, nstep_add (fun e => e.elim (fun e => h0 (by rw [e]; exact empty_len)) (fun e => by rw [e] at hd; simp at hd)) (.inr ⟨(fun e => by rw [List.map_eq_nil_iff.mp e] at hne; cases hne), (by rw [last_fst]; exact eq_of_beq hlast)⟩), List.map_append]; rfl, by rw [List.length_append]; exact Nat.succ_le_succ hxl, hb2⟩)
      · rename (((xs.getLastD _).1 == _) = false) => hlast
        exact hPP _ _ (Stop.here ⟨_, _, _, _, rfl, F3, N3, ne' _ _, xs.dropLast, n + 1, rfl, rfl, rfl, rfl, rfl, rfl, by
          rw [hstep, nstep_pop (fun e => e.elim (fun e => h0 (by rw [e]; exact empty_len)) (fun e => by rw [e] at hd; simp at hd)) (fun e => e.elim (fun e => e (by simpa using hdd)) (fun e => by rw [last_fst] at e; rw [e.2] at hlast; simp at hlast)), List.map_dropLast], by rw [List.length_dropLast]; omega, hb3⟩)
      · rename ((c.length : Int) = 0) => h0
        exact hPP _ _ (Stop.here ⟨_, _, _, _, rfl, F3, N3, ne' _ _, xs, n, rfl, rfl, rfl, rfl, rfl, rfl, by rw [hstep, nstep_skip (.inl (len_zero h0))], by omega, hxb⟩)
    · rintro m' news' h' tk' ⟨xs, n, rfl, e1, e2, e3, e4, e5, hx, hxl, hxb⟩ F1 N1
      rw [sls_size, hll] at hx hxl
      rw [List.take_length] at hx
      have F2 := fr_pins F1 [(Str.ofString "sep", .str (Str.ofString "/") _), (Str.ofString "dot", .str (Str.ofString ".") _), (Str.ofString "dotdot", .str (Str.ofString "..") _), (Str.ofString "initial_slashes", .str (Str.ofString "/") t2), (Str.ofString "new_comps", .ref l')] (by simp only [List.forall_mem_cons]; exact ⟨e1, e2, e3, e4, e5, fun _ h => nomatch h⟩)
      clear F' F1 N' N2
      have hj : xs.length * 1000 + xs.length * (Str.ofString "/").length ≤ 16777216 := by
        have : (Str.ofString "/").length = 1 := by decide
        rw [this]; omega
      have hjl : (Txt.join (Str.ofString "/") (xs.map (·.1))).length ≤ 200000 := by
        have := join_len (sep := Str.ofString "/") hxb
        have h1 : (Str.ofString "/").length = 1 := by decide
        rw [h1, List.length_map] at this
        omega
      have hsl : (Str.ofString "/").length = 1 := by decide
      k_steps
      rename (Fr _ _ _ _) => F3
      rw [← hx] at ret
      exact ret _ _ _ (fun b o e => F3.keep b o (hg ▸ e))
  · exfalso; rename ((p.length : Int) = 0) => q; exact hp0 q
end
end TK2
end Mine

namespace Mine
section TK3
open PySem PySem.W PyProof.Rows PySem.Calls
set_option maxRecDepth 100000
set_option maxHeartbeats 1000000
local macro_rules | `(tactic| walk_at "my side") => `(tactic| ((case ho => k_is); (case hcd => k_is); (case hroom => decide); (case hcell => decide); (case hco => rfl); (case hgen => rfl); (case hk => rfl)))
local macro_rules | `(tactic| walk_at "call ref") => `(tactic| (k_here; refine Stop.intro ?_))
section
variable {w : World} {b₀ : Heap} {mean : ExcName → Option Value} {mg mb : Str → Option Value} {A : Around} {E : Value → Shared → Prop} {s : Shared}
set_option pp.deepTerms false
set_option pp.deepTerms.threshold 6
theorem normpath143_ct {p : Str} {t : Tok} {cs : List Str} {Q : Value → Shared → Prop} (W : Wd w b₀ mean mg mb) (stb : b₀.StaysIn s.heap) (R : Room A 14)
    (hp : p.length ≤ 1000) (hp0 : (p.length : Int) ≠ 0) (c1 : (Txt.slice p none (some 1) != Str.ofString "/") = false) (c2 : (Txt.slice p (some 1) (some 2) != Str.ofString "/") = true)
    (hcs : Txt.split (Txt.slice p (some 1) none) (Str.ofString "/") = cs) (hn : cs.length ≤ 100)
    (ret : ∀ h' tk' t', s.heap.StaysIn h' → Q (.str (Str.ofString "/" ++ Txt.join (Str.ofString "/") (cs.foldl nstep [])) t') { s with heap := h', toks := tk' }) :
    wpAny (model PySem.Challenge.rw_ik0148_01.row.prog w) A (call (.ref 143) [.str p t]) Q E s := by
  refine R.wp ?_
  have KX := W.K
  revert KX
  k_fill
  intro KX
  have hbig : 3 < s.heap.objs.size := Heap.lt_size (stb _ _ (KX 3 _ (by k_is)))
  refine' enter_rest2 (binds := fun D D2 => [(Str.ofString "args", .ref D), (Str.ofString "kwargs", .ref D2)]) (o := { cls := .type "tuple", data := .seq #[.str p t] }) (o2 := emptyDict) W stb ?ho ?hcd ?hroom ?hbind rfl rfl ?hloc ?_ ?hcell ?hco ?hgen ?hk
  walk_at "my side"
  case hbind => with_unfolding_all rfl
  case hloc => intro D D2; exact locs rfl
  intro g D D2 L h₁ hg hDz hDD F N KG TG
  have gst : b₀.StaysIn g := fun b o e => by rw [hg]; exact stb b o e
  have hb : ∀ b, g.get? b = none → b₀.get? b = none := fun b e => by
    cases q : b₀.get? b with
    | none => rfl
    | some o => rw [gst _ _ q] at e; cases e
  have z1 := N _ (.tail _ (.head _))
  have z2 := N _ (.head _)
  have hsm : (D2 == sysModules) = false := by
    simp only [sysModules, beq_eq_false_iff_ne, ne_eq]
    intro e
    replace hDD := ltN hDD
    omega
  clear KX
  k_steps
  rename (Fr _ _ _ _) => F2
  rename (News _ _ _ _) => N2
  refine Stop.here (cpath_ct W (fun b o e => F2.keep b o (gst b o e)) ⟨rfl, Nat.le_of_ble_eq_true rfl, Nat.le_of_ble_eq_true rfl⟩ (N2 _ (.tail _ (.head _))).1 (N2 _ (.head _)).1 (hb _ z1.2.2) (hb _ z2.2.2) hDD hsm fun h' tk' k e1 e2 => ?_)
  have kk : h₁.StaysIn h' := fun b o e => by
    by_cases q1 : b = D
    · subst q1; exact e1.trans e
    · by_cases q2 : b = D2
      · subst q2; exact e2.trans e
      · exact k b o (by simp [q1, q2]) e
  have F3 := fr_stay F2 kk
  have N3 := news_stay N2 kk
  clear F2 N2 z1 z2 e1 e2 k
  k_steps
  refine Stop.here (normpath136_ct W (fun b o e => F3.keep b o (gst b o e)) ⟨rfl, Nat.le_of_ble_eq_true rfl, Nat.le_of_ble_eq_true rfl⟩ hp hp0 c1 c2 hcs hn fun h2 tk2 t2 k2 => ?_)
  exact ret _ _ _ (fun b o e => k2 b o (F3.keep b o (hg ▸ e)))
end
end TK3
end Mine

namespace Mine
section TM1
open PySem PySem.W PyProof.Rows PySem.Calls
set_option maxRecDepth 100000
set_option maxHeartbeats 800000
theorem layNew_led (t : SetTable) (es : Array (Int × Value)) (h : Int) (x : Value) : (layNew t es h x).2.1.led = t.led := by
  unfold layNew
  split
  · simp only [SetTable.orStandIn, SetTable.put]
    (repeat' split) <;> rfl
  · rfl
theorem laid_led {mask finger moves : Nat} {led plain : Bool} {hs : Array Int} {t : SetTable} {o : Array Nat} (e : SetTable.laid mask finger moves led plain hs = some (t, o)) : t.led = led ∧ t.plain = plain := by
  unfold SetTable.laid at e
  cases hc : SetTable.layClean mask hs with
  | none => rw [hc] at e; cases e
  | some v =>
    rw [hc] at e
    simp only [Option.pure_def, Option.bind_eq_bind, Option.bind_some, Option.some.injEq, Prod.mk.injEq] at e
    obtain ⟨rfl, _⟩ := e
    exact ⟨rfl, rfl⟩
theorem relayAll_led (t : SetTable) (es : Array (Int × Value)) (n : Nat) : (relayAll t es n).2.1.led = t.led := by
  unfold relayAll
  split
  · rename_i t' order e
    dsimp only
    split
    · exact (laid_led e).1
    · rfl
  · rfl
theorem relayAll_plain (t : SetTable) (es : Array (Int × Value)) (n : Nat) (hp : t.plain = false) : (relayAll t es n).2.1.plain = false := by
  unfold relayAll
  split
  · rename_i t' order e
    dsimp only
    split
    · exact (laid_led e).2.trans hp
    · rfl
  · rfl

/-- a set of strs: what it holds, and by what its order goes -/
def SetIs (prog : Program) (w : World) (led : Bool) (o : Obj) (vs : List (Str × Tok)) : Prop :=
  o.ExactSet ∧ ∃ es ep t, o.data = .set es ep t ∧ t.fits es.size = true ∧ t.led = led ∧ (es.size ≠ 0 → t.plain = false) ∧ ElemsOf (PySem.strKind prog w) es.toList ∧ List.Perm (es.toList.map (·.2)) (strValues vs)

section
variable {prog : Program} {w : World} {A : Around} {E : Value → Shared → Prop} {s : Shared} {led : Bool}

theorem is_str {k : Str} {v : Value} {vs : List (Str × Tok)} (hv : v ∈ strValues vs) (hk : (PySem.strKind prog w).is k v = true) : k ∈ vs.map (·.1) := by
  simp only [strValues, List.mem_map] at hv
  obtain ⟨⟨y, t⟩, hm, rfl⟩ := hv
  have hk' : Value.isStrOf k (.str y t) = true := hk
  obtain ⟨u, e⟩ := Value.isStrOf_shape hk'
  cases e
  exact List.mem_map.mpr ⟨_, hm, rfl⟩
theorem str_is {x : Str} {t : Tok} : (PySem.strKind prog w).is x (.str x t) = true := by
  show Value.isStrOf x (.str x t) = true
  simp [Value.isStrOf]
theorem SetIs.size {vs : List (Str × Tok)} {es : Array (Int × Value)} (p : List.Perm (es.toList.map (·.2)) (strValues vs)) : es.size = vs.length := by
  have := p.length_eq
  simpa [strValues] using this

theorem set_add {a : Addr} {o : Obj} {vs : List (Str × Tok)} {x : Str} {tk : Tok} {Q : Bool → Shared → Prop} (ho : s.heap.get? a = some o) (hS : SetIs prog w led o vs) (hx : x ∉ vs.map (·.1)) (hz : vs.length ≤ 100)
    (h : ∀ h' o', Heap.SameBut a s.heap h' → h'.get? a = some o' → SetIs prog w led o' (vs ++ [(x, tk)]) → Q true { s with heap := h' }) :
    wpAny (model prog w) A (setAddHashed a (.str x tk) ((PySem.strKind prog w).hash x)) Q E s := by
  obtain ⟨hex, es, ep, t, hd, hf, hled, hpl, hel, hp⟩ := hS
  have hn : es.size = vs.length := SetIs.size hp
  have hkey : (PySem.strKind prog w).is x (.str x tk) = true := str_is
  have hsc : (Value.str x tk).scannable = true := rfl
  have hb : es.size < scanBound := by rw [hn]; unfold scanBound; omega
  unfold setAddHashed setAddHashedIn
  refine wpAny_holding (wpAny_bind (wpAny_setState_of ho hd hf ?_))
  dsimp only
  rw [byScan_of hsc hb hel]
  simp only [↓reduceIte]
  unfold setAddByScan
  refine wpAny_bind ?_
  refine wpAny_bind (wpAny_rule ?_)
  refine wpAny_bind (wpAny_setScan_of hkey ho hd hf hel ?_)
  have hr : List.findIdx? (fun e => (PySem.strKind prog w).is x e.2) es.toList = none := by
    rw [List.findIdx?_eq_none_iff]
    intro e he
    rw [← Bool.not_eq_true]
    intro hk
    exact hx (is_str (hp.mem_iff.mp (List.mem_map.mpr ⟨e, he, rfl⟩)) hk)
  rw [hr]
  dsimp only
  have hgw : ∀ (b : Bool) {s₁ : Shared} {Q' : Unit → Shared → Prop}, Q' () s₁ → wpAny (model prog w) A (match b with | true => rule "set.scan.the-table-gave-way" | false => pure ()) Q' E s₁ :=
    fun b s₁ Q' hq => by cases b <;> first | exact wpAny_pure hq | exact wpAny_rule hq
  have hperm := layNew_perm t es ((PySem.strKind prog w).hash x) (.str x tk)
  have hfits := layNew_fits t es ((PySem.strKind prog w).hash x) (.str x tk)
  have hle := layNew_led t es ((PySem.strKind prog w).hash x) (.str x tk)
  generalize hL : layNew t es ((PySem.strKind prog w).hash x) (.str x tk) = L at hperm hfits hle ⊢
  obtain ⟨es1, t1, wasDummy, gave⟩ := L
  dsimp only at hperm hfits hle ⊢
  rw [Array.toList_push] at hperm
  have hel1 : ElemsOf (PySem.strKind prog w) es1.toList := (hel.push hkey hsc).perm hperm
  have hp1 : List.Perm (es1.toList.map (·.2)) (strValues (vs ++ [(x, tk)])) := by
    refine (hperm.map (·.2)).trans ?_
    rw [List.map_append]
    unfold strValues
    rw [List.map_append]
    exact hp.append_right _
  have hsz1 : es1.size = vs.length + 1 := by have := SetIs.size hp1; simpa using this
  refine wpAny_bind (hgw _ ?_)
  have tail : ∀ t2 : SetTable, t2.fits es1.size = true → t2.led = led → t2.plain = false → wpAny (model prog w) A (do
        storeSet a es1 t2
        if (!wasDummy && t2.tooFull) = true then do
            (match (relayAll t2 es1 (SetTable.grown es1.size)).2.2 with | true => rule "set.scan.the-table-gave-way" | false => pure ())
            storeSet a (relayAll t2 es1 (SetTable.grown es1.size)).1 (relayAll t2 es1 (SetTable.grown es1.size)).2.1
            pure (some true)
          else pure (some true)) (fun r s' => r = some true ∧ Q true s') E s := by
    intro t2 hf2 hl2 hpl2
    refine wpAny_bind (wpAny_storeSet_of ho hd ?_ (by rw [hsz1]; simp only [sizeLine]; omega))
    have hsb1 := Heap.SameBut.update s.heap a (Obj.putSet es1 t2)
    have hg1 : (s.heap.update a (Obj.putSet es1 t2)).get? a = some { o with data := .set es1 (ep + 1) t2 } := by
      have := Heap.get?_update_self (Obj.putSet es1 t2) ho (by rw [putSet_of es1 t2 hd]; rfl)
      rw [putSet_of es1 t2 hd] at this; exact this
    split
    · have hp2 := relayAll_perm t2 es1 (SetTable.grown es1.size)
      have hfr := relayAll_fits t2 es1 (SetTable.grown es1.size)
      have hlr := relayAll_led t2 es1 (SetTable.grown es1.size)
      have hpr := relayAll_plain t2 es1 (SetTable.grown es1.size) hpl2
      generalize hRl : relayAll t2 es1 (SetTable.grown es1.size) = Rl at hp2 hfr hlr hpr ⊢
      obtain ⟨es2, t3, gave2⟩ := Rl
      dsimp only at hp2 hfr hlr hpr ⊢
      have hsz : es2.size = es1.size := by rw [← Array.length_toList, hp2.length_eq, Array.length_toList]
      refine wpAny_bind (hgw _ ?_)
      refine wpAny_bind (wpAny_storeSet_of hg1 rfl ?_ (by rw [hsz, hsz1]; simp only [sizeLine]; omega))
      have hg2 : ((s.heap.update a (Obj.putSet es1 t2)).update a (Obj.putSet es2 t3)).get? a = some { o with data := .set es2 (ep + 1 + 1) t3 } := by
        have := Heap.get?_update_self (Obj.putSet es2 t3) hg1 (by rw [putSet_of es2 t3 rfl]; rfl)
        rw [putSet_of es2 t3 rfl] at this; exact this
      exact wpAny_pure ⟨rfl, h _ _ (hsb1.trans (Heap.SameBut.update _ a _)) hg2 ⟨hex, es2, _, t3, rfl, hfr, hlr.trans hl2, fun _ => hpr, hel1.perm hp2, (hp2.map _).trans hp1⟩⟩
    · exact wpAny_pure ⟨rfl, h _ _ hsb1 hg1 ⟨hex, es1, _, t2, rfl, hf2, hl2, fun _ => hpl2, hel1, hp1⟩⟩
  split
  · refine wpAny_bind ?_
    rw [hashByValue_scannable 8 hsc]
    refine wpAny_pure ?_
    refine wpAny_mono (tail { t1 with plain := false } (SetTable.fits_plain_off hfits) (hle.trans hled) rfl) (fun r s' q => ?_) fun _ _ q => q
    obtain ⟨rfl, q⟩ := q
    exact wpAny_pure q
  · rename_i hnp
    refine wpAny_bind (wpAny_pure ?_)
    simp only [↓reduceIte]
    refine wpAny_mono (tail t1 hfits (hle.trans hled) (by simpa using hnp)) (fun r s' q => ?_) fun _ _ q => q
    obtain ⟨rfl, q⟩ := q
    exact wpAny_pure q
end
end TM1
end Mine

namespace Mine
section TM2
open PySem PySem.W PyProof.Rows PySem.Calls
set_option maxRecDepth 100000
set_option maxHeartbeats 1600000
abbrev ledOf (w : World) : Bool := !w.params.followText "set-order"
abbrev newSetObj (led : Bool) : Obj := { cls := .type "set", dict := none, data := .set #[] 0 (.fresh 0 0 led) }
section
variable {prog : Program} {w : World} {A : Around} {E : Value → Shared → Prop} {s : Shared} {led : Bool}
theorem set_fresh : SetIs prog w led (newSetObj led) [] :=
  ⟨⟨rfl, rfl, rfl⟩, #[], 0, _, rfl, rfl, rfl, fun h => absurd rfl h, fun e he => by simp at he, by simp [strValues]⟩

theorem set_new_1 (a : Value) {Q₁ : Value → Shared → Prop}
    (h : Q₁ (.ref s.heap.objs.size) { s with heap := s.heap.push (newSetObj (ledOf w)) }) :
    codeAny (model prog w) A (.call (.builtin "set.__new__") ⟨[.type "set", a], []⟩) (wants Q₁ E) s := by
  refine codeAny_of_tree ?_
  show wpAny _ A.in1 (do checkBuiltinCall "set.__new__" ⟨[.type "set", a], []⟩; again (.builtin "set.__new__" ⟨[.type "set", a], []⟩)) _ _ s
  refine wpAny_bind (wpAny_of_eq (F.newCall_set_1 a) (wpAny_pure ⟨plainId_quiet F.plain_set_new _, codeAny_builtin F.entry_set_new ?_⟩))
  rw [Around.under_plainId F.plain_set_new _]
  unfold Builtin.«set.__new__» Builtin.Frozenset.newClass
  have hsub := sub_set_self
  obtain ⟨hp, g, d, tk, os⟩ := s
  dsimp only
  wp_walk
  refine wpAny_askSetting (wpAny_pure ?_)
  dsimp only
  simp only [newObj]
  refine wpAny_bind (wpAny_alloc (wpAny_pure ?_))
  exact wpAny_pure h

theorem set_loop {S I l : Addr} {xs : List (Str × Tok)} (hh : A.handled = none) (hS : S ≠ I) (hSl : S ≠ l) (hIl : l ≠ I) (hz : xs.length ≤ 50) (hnd : (xs.map (·.1)).Nodup) :
    ∀ (k i : Nat) (s : Shared) (R : Result → Shared → Prop), xs.length - i = k → i ≤ xs.length → s.heap.IsListIter I l i → s.heap.IsList l (sls xs) →
      (∃ o, s.heap.get? S = some o ∧ SetIs prog w led o (xs.take i)) →
      (∀ h' tk o, (∀ b ob, b ≠ S → b ≠ I → s.heap.get? b = some ob → h'.get? b = some ob) → h'.get? S = some o → SetIs prog w led o xs → R (.ok (.ret .none)) { s with heap := h', toks := tk }) →
      codeAny (model prog w) A (.builtin "set.update.loop" ⟨[.ref S, .ref I], []⟩) R s := by
  intro k
  induction k with
  | zero =>
    intro i s R hk hi hit hl hs hR
    have hin : i = xs.length := by omega
    subst hin
    refine codeAny_builtin F.entry_set_update_loop ?_
    rw [Around.under_plainId F.plain_set_update_loop _]
    show wpAny _ A.in1 (pyNext (.ref I) >>= _) _ _ s
    refine wpAny_bind (wpAny_pyNext_list_end (by simp [hh]) hit hl (by simp [strValues]) fun h' he => ?_)
    show wpAny _ A.in1 (ret Value.none) _ _ _
    obtain ⟨o, ho, hso⟩ := hs
    rw [List.take_length] at hso
    exact wpAny_pure (hR h' _ o (fun b ob _ n e => he b ob n e) (he _ _ hS ho) hso)
  | succ k ih =>
    intro i s R hk hi hit hl hs hR
    have hlt : i < xs.length := by omega
    refine codeAny_builtin F.entry_set_update_loop ?_
    rw [Around.under_plainId F.plain_set_update_loop _]
    show wpAny _ A.in1 (pyNext (.ref I) >>= _) _ _ s
    refine wpAny_bind (wpAny_pyNext_list_item hit hl (x := .str xs[i].1 xs[i].2) (by simp [strValues, hlt]) fun h' hit' hsb => ?_)
    obtain ⟨o, ho, hso⟩ := hs
    have ho' : h'.get? S = some o := hsb.extBut _ _ hS ho
    show wpAny _ A.in1 (holding [Value.str xs[i].1 xs[i].2] (setAdd S (.str xs[i].1 xs[i].2)) >>= _) _ _ _
    refine wpAny_bind (wpAny_holding ?_)
    unfold setAdd
    refine wpAny_holding ?_
    refine wpAny_bind ((PySem.strKind prog w).pyHash (k := xs[i].1) str_is ?_)
    refine set_add (s := { s with heap := h', toks := s.toks + 1 }) ho' hso ?_ (by rw [List.length_take]; omega) fun h2 o2 hsb2 ho2 hso2 => ?_
    · rw [List.map_take]
      intro hm
      obtain ⟨j, hj, e⟩ := List.mem_take_iff_getElem.mp hm
      rw [List.length_map] at hj
      exact List.pairwise_iff_getElem.mp hnd j i (by rw [List.length_map]; omega) (by rw [List.length_map]; omega) (by omega) (by rw [e, List.getElem_map])
    · have ee : xs.take i ++ [(xs[i].1, xs[i].2)] = xs.take (i + 1) := List.take_append_getElem hlt
      rw [ee] at hso2
      refine wpAny_pure ⟨plainId_quiet F.plain_set_update_loop _, ih (i + 1) _ _ (by omega) hlt ?_ ?_ ⟨o2, ho2, hso2⟩ fun h3 tk3 o3 k3 ho3 hso3 => hR h3 tk3 o3 (fun b ob nS nI e => k3 b ob nS nI (hsb2.extBut _ _ nS (hsb.extBut _ _ nI e))) ho3 hso3⟩
      · obtain ⟨oi, hoi, r⟩ := hit'
        exact ⟨oi, hsb2.extBut _ _ (Ne.symm hS) hoi, r⟩
      · obtain ⟨ol, hol, r⟩ := hl
        exact ⟨ol, hsb2.extBut _ _ (Ne.symm hSl) (hsb.extBut _ _ hIl hol), r⟩

theorem call_set {l : Addr} {xs : List (Str × Tok)} {Q : Value → Shared → Prop}
    (hh : A.handled = none) (hl : s.heap.IsList l (sls xs)) (hz : xs.length ≤ 50) (hnd : (xs.map (·.1)).Nodup)
    (h : ∀ (h' : Heap) (tk : Nat) o, h'.get? s.heap.objs.size = some o → SetIs prog w (ledOf w) o xs →
      (∀ b o, b < s.heap.objs.size → s.heap.get? b = some o → h'.get? b = some o) → Q (.ref s.heap.objs.size) { s with heap := h', toks := tk }) :
    wpAny (model prog w) A (call (.type "set") [.ref l]) Q E s := by
  obtain ⟨c, tl, hmro⟩ := F.called_set.mro
  have hmade := F.called_set.made
  have hsub := F.called_set.sub
  refine wpAny_call (codeAny_of_tree ?_)
  show wpAny _ _ (callAny (.type "set") _) _ _ _
  refine wpAny_pure ⟨Code.quiet_builtin _ (by decide +kernel), codeAny_builtin F.entry_type_call ?_⟩
  rw [Around.under_plain (weight_type_call_type "set" [.ref l] []) rfl]
  have h1 := F.called_set.notType
  have h2 := F.called_set.canCreate
  have hct := F.typeCall_set_1 (.ref l)
  repeat (any_goals (first | assumption | wp_step))
  refine codeAny_mono (set_new_1 (.ref l) (E := E) (Q₁ := fun obj s₁ => obj = .ref s.heap.objs.size ∧ s₁ = { s with heap := s.heap.push (newSetObj (ledOf w)) }) ⟨rfl, rfl⟩) fun r s₁ hr => ?_
  cases r with
  | error e => exact hr
  | ok fl =>
    cases fl with
    | ret obj =>
      obtain ⟨rfl, rfl⟩ := hr
      have hS : (s.heap.push (newSetObj (ledOf w))).get? s.heap.objs.size = some (newSetObj (ledOf w)) := Heap.get?_push_size _ rfl
      have hT : Shared.TypeIs { s with heap := s.heap.push (newSetObj (ledOf w)) } (.ref s.heap.objs.size) "set" := ⟨_, hS, rfl⟩
      have hli := F.called_set.init.lookup
      have hbi := F.called_set.init.bind (.ref s.heap.objs.size)
      repeat (any_goals (first | assumption | wp_step))
      refine codeAny_mono (codeAny_call_builtin (R := wants (fun r s₂ => r = .none ∧ ∃ h' tk o, s₂ = { s with heap := h', toks := tk } ∧
          h'.get? s.heap.objs.size = some o ∧ SetIs prog w (ledOf w) o xs ∧
          (∀ b o, b < s.heap.objs.size → s.heap.get? b = some o → h'.get? b = some o)) E) F.called_set.init.plain F.entry_set_init (check_set_init_1 hT ?_)) fun r₂ s₂ hr₂ => ?_
      · obtain ⟨ol, hol, hcl, nl, hdl⟩ := hl
        obtain ⟨ocls, odict, odata, oslots⟩ := ol
        simp only at hcl hdl
        subst hcl; subst hdl
        have hol' : (s.heap.push (newSetObj (ledOf w))).get? l = some { cls := .type "list", dict := odict, data := .seq (sls xs) nl, slots := oslots } := Heap.get?_push_of_some _ hol
        have hsls := F.sub_list_set
        have hslf := F.sub_list_frozenset
        have hne : (Value.type "list" == Value.type "dict") = false := by decide
        have hl1 : (s.heap.push (newSetObj (ledOf w))).IsList l (sls xs) := ⟨_, hol', rfl, nl, rfl⟩
        unfold Builtin.«set.__init__» noKeywords Builtin.Frozenset.updateFrom
        generalize hPI : pyIter = PI
        wp_walk
        subst hPI
        refine wpAny_pyIter_list hl1 ?_
        refine wpAny_bind (wpAny_runValue ?_)
        have hlS : l < s.heap.objs.size := Heap.lt_size hol
        have hh3 : A.in1.in1.handled = none := by simp [hh]
        have hsz : (s.heap.push (newSetObj (ledOf w))).objs.size = s.heap.objs.size + 1 := Heap.size_push ..
        have hlS' := ltN hlS
        refine set_loop (xs := xs) (S := s.heap.objs.size) (I := (s.heap.push (newSetObj (ledOf w))).objs.size) (l := l) hh3 ?_ ?_ ?_ hz hnd (xs.length - 0) 0 _ _ rfl (Nat.zero_le _) ⟨_, Heap.get?_push_size _ rfl, rfl, rfl⟩ (hl1.push _) ⟨_, Heap.get?_push_of_some _ hS, set_fresh⟩ fun h' tk o k' ho' hso' => ?_
        · rw [hsz]; exact Nat.ne_of_lt (Nat.lt_succ_self _)
        · exact Nat.ne_of_gt hlS
        · rw [hsz]; exact Nat.ne_of_lt (Nat.lt_succ_of_lt hlS)
        · show wpAny _ _ _ _ _ _
          refine wpAny_pure ?_
          show wpAny _ _ (ret Value.none) _ _ _
          refine wpAny_pure ⟨rfl, h', tk, o, rfl, ho', hso', fun b ob hb e => k' b ob (Nat.ne_of_lt hb) ?_ (Heap.get?_push_of_some _ (Heap.get?_push_of_some _ e))⟩
          rw [hsz]; exact Nat.ne_of_lt (Nat.lt_succ_of_lt hb)
      · cases r₂ with
        | error e => exact hr₂
        | ok fl₂ =>
          cases fl₂ with
          | ret r =>
            obtain ⟨rfl, h', tk, o, rfl, ho', hso', hk'⟩ := hr₂
            repeat (any_goals (first | assumption | wp_step))
            exact h _ _ o ho' hso' hk'
          | _ => exact hr₂.elim
    | _ => exact hr.elim
end
end TM2
end Mine

namespace Mine
section TM3
open PySem PySem.W PyProof.Rows PySem.Calls
set_option maxRecDepth 100000
set_option maxHeartbeats 400000
theorem slot_setiter_next : Slot "set_iterator" "__next__" "set_iterator.__next__" :=
  .of (owner := "set_iterator") (n := "__next__") (by rw [typeLookup_type, builtinLookup_eq_fast]; kernel_rfl) (by decide +kernel) (by decide +kernel) (by decide +kernel)
    (by first | exact .inl (by decide +kernel) | exact .inr (by decide +kernel)) (by rw [isSubtype_type]; kernel_rfl)
theorem entry_setiter_next : entryFor table "set_iterator.__next__" = some Builtin.«set_iterator.__next__» := entryFor_of_fast (by kernel_rfl)
theorem args_setiter_next (a : Value) : argsOk "set_iterator.__next__" ⟨[a], []⟩ := by unfold argsOk; kernel_rfl
theorem entry_set_iter : entryFor table "set.__iter__" = some Builtin.«frozenset.__iter__» :=
  entryFor_alias (id' := "frozenset.__iter__") (by kernel_rfl) rfl (by decide +kernel) (by kernel_rfl)

theorem fm_congr {α β : Type} {f : α → Option β} {g : α → β} : ∀ l : List α, (∀ q ∈ l, f q = some (g q)) → l.filterMap f = l.map g
  | [], _ => rfl
  | a :: l, h => by rw [List.filterMap_cons_some (h a (.head _)), fm_congr l fun q hq => h q (.tail _ hq), List.map_cons]
theorem perm_erase {α : Type} : ∀ (xs : List α) (i : Nat) (h : i < xs.length), List.Perm (xs[i] :: xs.eraseIdx i) xs
  | x :: xs, 0, _ => List.Perm.refl _
  | x :: xs, i + 1, h => (List.Perm.swap _ _ _).trans ((perm_erase xs i (Nat.lt_of_succ_lt_succ h)).cons x)
section
variable {M : Model} {A : Around} {E : Value → Shared → Prop}
theorem wpAny_choose {src : Source} {n : Nat} {s : Shared} {Q : Nat → Shared → Prop} (hn : n ≠ 0) (h : ∀ i dr, i < n → Q i { s with drawn := dr }) : wpAny M A (choose src n) Q E s :=
  fun _ _ _ => ⟨hn, h _ _ (Nat.mod_lt _ (Nat.pos_of_ne_zero hn))⟩
theorem wpAny_drawOrder {α : Type} (n : Nat) : ∀ (xs : List α) (s : Shared) {Q : List α → Shared → Prop}, n = xs.length → (∀ ys dr, List.Perm ys xs → Q ys { s with drawn := dr }) → wpAny M A (drawOrder n xs) Q E s := by
  induction n with
  | zero =>
    intro xs s Q hn h
    have : xs = [] := List.length_eq_zero_iff.mp hn.symm
    subst this
    unfold drawOrder
    exact wpAny_pure (h [] s.drawn (List.Perm.refl _))
  | succ n ih =>
    intro xs s Q hn h
    cases xs with
    | nil => exact absurd hn (Nat.succ_ne_zero n)
    | cons x xs =>
      unfold drawOrder
      refine wpAny_bind (wpAny_choose (by simp) fun i dr hi => ?_)
      rw [List.getElem?_eq_getElem hi]
      dsimp only
      refine wpAny_bind (ih _ _ ?_ fun ys dr' hp => ?_)
      · rw [List.length_eraseIdx_of_lt hi]; simp only [List.length_cons] at hn ⊢; omega
      · exact wpAny_pure (h _ _ ((hp.cons _).trans (perm_erase _ _ hi)))
end
theorem pick_go {α : Type} (next : Nat → Nat) : ∀ (fuel k : Nat) (left : List α) (out : Array α), fuel = left.length → List.Perm (pickOrder.go next fuel k left out).toList (out.toList ++ left)
  | 0, k, left, out, h => by
    have : left = [] := List.length_eq_zero_iff.mp h.symm
    subst this
    unfold pickOrder.go
    simp
  | fuel + 1, k, left, out, h => by
    unfold pickOrder.go
    have hi : next k % left.length < left.length := Nat.mod_lt _ (by omega)
    rw [List.getElem?_eq_getElem hi]
    dsimp only
    refine (pick_go next fuel (k + 1) _ _ (by rw [List.length_eraseIdx_of_lt hi]; omega)).trans ?_
    rw [Array.toList_push, List.append_assoc]
    exact List.Perm.append_left _ (perm_erase _ _ hi)
theorem pick_perm {α : Type} (next : Nat → Nat) (xs : Array α) : List.Perm (pickOrder next xs).toList xs.toList := by
  have := pick_go next xs.size 0 xs.toList #[] (by simp)
  simpa [pickOrder] using this


abbrev placeTup (ps : List Nat) : Obj := { cls := .type "tuple", data := .seq (ps.map fun (p : Nat) => rawInt (p : Int)).toArray }
inductive SIter (w : World) (h : Heap) (it a : Addr) (ys : List Value) (ext : List (Addr × Obj)) (i : Nat) : Prop
  | mk (oi o : Obj) (es : Array (Int × Value)) (ep : Nat) (t : SetTable) (first : Value) (hoi : h.get? it = some oi) (hci : oi.cls = .type "set_iterator") (hdi : oi.data = .fields #[first, .int (i : Nat) 0, .ref a, .int (es.size : Nat) 0, .int (ep : Nat) 0]) (ho : h.get? a = some o) (hd : o.data = .set es ep t) (hf : t.fits es.size = true) (hyl : ys.length = es.size)
    (hm : (ext = [] ∧ w.params.followText "set-order" = true ∧ first = .int 0 0 ∧ (pickOrder (w.params.setOrder a ep) es).toList.map (·.2) = ys)
    ∨ (∃ (T : Addr) (ps : List Nat), ext = [(T, placeTup ps)] ∧ first = .ref T ∧ h.get? T = some (placeTup ps) ∧ ps.length = es.size ∧ (∀ (j p : Nat), ps[j]? = some p → (es[p]?).map (·.2) = ys[j]?))
    ∨ (ext = [] ∧ w.params.followText "set-order" = false ∧ es.size ≤ 1 ∧ (es.size ≠ 0 → t.led = true) ∧ ys = es.toList.map (·.2) ∧ ∃ slot : Nat, first = .int slot 0 ∧ (i = 0 → slot = 0) ∧ (∀ j, i ≠ 0 → t.place[0]? = some j → slot = j + 1))) : SIter w h it a ys ext i

section
variable {prog : Program} {w : World} {A : Around} {E : Value → Shared → Prop} {s : Shared}
theorem pyIter_set {a : Addr} {o : Obj} {vs : List (Str × Tok)} {led : Bool} {Q : Value → Shared → Prop} (ho : s.heap.get? a = some o) (hS : SetIs prog w led o vs) (hlw : vs ≠ [] → led = ledOf w) (hz : vs.length ≤ 100)
    (h : ∀ ys ext h' dr, List.Perm ys (strValues vs) → SIter w h' h'.objs.size.pred a ys ext 0 → s.heap.StaysIn h' → s.heap.objs.size ≤ h'.objs.size.pred → (∀ p ∈ ext, p.1 < h'.objs.size.pred ∧ s.heap.objs.size ≤ p.1 ∧ h'.get? p.1 = some p.2) → h'.objs.size.pred + 1 = h'.objs.size →
      Q (.ref h'.objs.size.pred) { s with heap := h', drawn := dr }) :
    wpAny (model prog w) A (pyIter (.ref a)) Q E s := by
  obtain ⟨hex, es, ep, t, hd, hf, hled, hpl, hel, hp⟩ := hS
  have hT : s.TypeIs (.ref a) "set" := ⟨o, ho, hex.1⟩
  refine wpAny_pyIter_slot hT F.slot_set_iter (wpAny_call_entry F.slot_set_iter hT entry_set_iter ?_ (F.args_set_iter_1 _))
  unfold Builtin.«frozenset.__iter__» Builtin.Frozenset.slot0 slotArgs
  simp only [List.isEmpty_nil, Bool.not_true, Bool.false_eq_true, ↓reduceIte, bind_assoc, List.length_nil, bne_self_eq_false]
  unfold Builtin.Frozenset.addrOf Builtin.Frozenset.sizeOf
  refine wpAny_bind (wpAny_pure ?_)
  try dsimp only
  refine wpAny_bind (wpAny_pure ?_)
  refine wpAny_bind (wpAny_bind (wpAny_setEntries_of ho hd hf (wpAny_pure ?_)))
  unfold setDrawn setsByText
  refine wpAny_bind (wpAny_bind (wpAny_setState_of ho hd hf ?_))
  dsimp only
  refine wpAny_bind (wpAny_bind (wpAny_askSetting (wpAny_pure (wpAny_pure ?_))))
  have sz : ∀ (h : Heap) (x : Obj), (h.push x).objs.size = h.objs.size + 1 := fun h x => Heap.size_push h x
  have hyl : (es.toList.map (·.2)).length = es.size := by simp
  have fin : ∀ (first : Value) (dr : Drawn) (h₁ : Heap) (ys : List Value) (ext : List (Addr × Obj)), s.heap.StaysIn h₁ → s.heap.objs.size ≤ h₁.objs.size → List.Perm ys (strValues vs) → (∀ p ∈ ext, p.1 < h₁.objs.size ∧ s.heap.objs.size ≤ p.1 ∧ h₁.get? p.1 = some p.2) →
      (∀ h' : Heap, (∀ b ob, h₁.get? b = some ob → h'.get? b = some ob) → ((ext = [] ∧ w.params.followText "set-order" = true ∧ first = .int 0 0 ∧ (pickOrder (w.params.setOrder a ep) es).toList.map (·.2) = ys)
    ∨ (∃ (T : Addr) (ps : List Nat), ext = [(T, placeTup ps)] ∧ first = .ref T ∧ h'.get? T = some (placeTup ps) ∧ ps.length = es.size ∧ (∀ (j p : Nat), ps[j]? = some p → (es[p]?).map (·.2) = ys[j]?))
    ∨ (ext = [] ∧ w.params.followText "set-order" = false ∧ es.size ≤ 1 ∧ (es.size ≠ 0 → t.led = true) ∧ ys = es.toList.map (·.2) ∧ ∃ slot : Nat, first = .int slot 0 ∧ (0 = 0 → slot = 0) ∧ (∀ j, 0 ≠ 0 → t.place[0]? = some j → slot = j + 1)))) →
      wpAny (model prog w) A.in1 (do
          let __do_lift ← setEpoch a
          let __do_lift ← newFields "set_iterator" [first, rawInt 0, Value.ref a, rawInt ↑es.size, rawInt ↑__do_lift]
          ret __do_lift) (fun fin s' =>
      ∃ v,
        fin = Fin.done (Flow.ret v) ∧
          ∃ T' r, s'.TypeIs v T' ∧ typeLookup (Value.type T') (Str.ofString "__next__") = pure (some r) ∧ Q v s') E { s with heap := h₁, drawn := dr } := by
    intro first dr h₁ ys ext k hle hys hext hm
    have ho₁ := k _ _ ho
    refine wpAny_bind (wpAny_setEpoch_of ho₁ hd hf ?_)
    refine wpAny_bind (wpAny_newObj_type ?_ (by size_fits))
    refine wpAny_pure ⟨_, rfl, "set_iterator", _, ⟨_, Heap.get?_push_size _ rfl, rfl⟩, slot_setiter_next.lookup, ?_⟩
    have kp : ∀ b ob, h₁.get? b = some ob → (h₁.push { cls := .type "set_iterator", dict := none, data := .fields [first, rawInt 0, Value.ref a, rawInt es.size, rawInt ep].toArray }).get? b = some ob := fun b ob e => Heap.get?_push_of_some _ e
    have hq := h ys ext (h₁.push { cls := .type "set_iterator", dict := none, data := .fields [first, rawInt 0, Value.ref a, rawInt es.size, rawInt ep].toArray }) dr hys
    rw [sz, Nat.pred_succ] at hq
    refine hq ⟨_, o, es, ep, t, first, Heap.get?_push_size _ rfl, rfl, rfl, kp _ _ ho₁, hd, hf, ?_, hm _ kp⟩ (fun b ob e => kp _ _ (k b ob e)) hle (fun p hp => ⟨(hext p hp).1, (hext p hp).2.1, kp _ _ (hext p hp).2.2⟩) rfl
    rw [hys.length_eq, ← hp.length_eq, hyl]
  have pb : ∀ l : List (Int × Value), List.Perm l es.toList → List.Perm (l.map (·.2)) (strValues vs) := fun l q => (q.map _).trans hp
  cases hbt : w.params.followText "set-order" with
  | true =>
    rw [if_neg (by show ¬ ((!w.params.followText "set-order" && _) = true); rw [hbt]; simp)]
    refine wpAny_bind (wpAny_pure (fin _ s.drawn s.heap ((pickOrder (w.params.setOrder a ep) es).toList.map (·.2)) [] (fun _ _ e => e) (Nat.le_refl _) (pb _ (pick_perm _ _)) (fun p hp => nomatch hp) fun h' k => .inl ⟨rfl, hbt, rfl, rfl⟩))
  | false =>
    by_cases h1 : es.size ≤ 1
    · rw [if_neg (by show ¬ ((_ && (!t.plain && decide (es.size > 1))) = true); simp; omega)]
      refine wpAny_bind (wpAny_pure (fin _ s.drawn s.heap (es.toList.map (·.2)) [] (fun _ _ e => e) (Nat.le_refl _) hp (fun p hp => nomatch hp) fun h' k => .inr (.inr ⟨rfl, hbt, h1, fun q => (hled.trans (hlw fun q2 => q (by have := SetIs.size hp; rw [q2] at this; exact this))).trans (by simp [hbt]), rfl, 0, rfl, fun _ => rfl, fun j q => absurd rfl q⟩)))
    · have hpl' := hpl (by omega)
      rw [if_pos (by show ((!w.params.followText "set-order" && (!t.plain && decide (es.size > 1))) = true); rw [hbt, hpl']; simp; omega)]
      refine wpAny_bind (wpAny_drawOrder _ _ _ (by simp) fun ps dr hps => ?_)
      have hpsz : ps.length = es.size := by rw [hps.length_eq]; simp
      refine wpAny_bind (wpAny_newTuple ?_ ?_)
      · refine fin (.ref s.heap.objs.size) dr _ (ps.filterMap fun p => (es[p]?).map (·.2)) [(s.heap.objs.size, placeTup ps)] (fun b ob e => Heap.get?_push_of_some _ e) ?_ ?_ ?_ fun h' k => .inr (.inl ⟨_, ps, rfl, rfl, k _ _ (Heap.get?_push_size _ rfl), hpsz, ?_⟩)
        · show _ ≤ (s.heap.push _).objs.size
          rw [sz]; exact Nat.le_succ _
        · refine (hps.filterMap _).trans (List.Perm.trans (List.Perm.of_eq ?_) hp)
          rw [← filterMap_getElem?_range es, List.map_filterMap]
        · intro p hp
          rw [List.mem_singleton.mp hp]
          exact ⟨by rw [sz]; exact Nat.lt_succ_self _, Nat.le_refl _, Heap.get?_push_size _ rfl⟩
        · intro j p hjp
          have hin : ∀ q ∈ ps, q < es.size := fun q hq => by have := (hps.mem_iff.mp hq); simpa using this
          have e : (ps.filterMap fun p => (es[p]?).map (·.2)) = ps.map fun p => (es.getD p (0, .none)).2 := by
            refine fm_congr _ fun q hq => ?_
            have := hin q hq
            simp [this]
          rw [e, List.getElem?_map, hjp]
          have := hin p (List.mem_of_getElem? hjp)
          simp [this]
      · rw [List.length_map, hpsz]
        have hl2 : es.size = vs.length := SetIs.size hp
        have : es.size ≤ 100 := by rw [hl2]; exact hz
        simp only [sizeLine]; omega

theorem setNext_text {a : Addr} {o : Obj} {es : Array (Int × Value)} {ep i k : Nat} {t : SetTable} {Q : Option (Value × Nat) → Shared → Prop} (ho : s.heap.get? a = some o) (hd : o.data = .set es ep t) (hf : t.fits es.size = true) (hbt : w.params.followText "set-order" = true)
    (h : Q (((pickOrder (w.params.setOrder a ep) es).toList.map (·.2))[i]?.map fun x => (x, k)) s) : wpAny (model prog w) A (setNext a k i ep) Q E s := by
  unfold setNext setsByText
  refine wpAny_bind (wpAny_setState_of ho hd hf ?_)
  dsimp only
  refine wpAny_bind (wpAny_bind (wpAny_askSetting (wpAny_pure ?_)))
  rw [if_pos (by exact hbt), if_neg (by simp)]
  refine wpAny_bind ?_
  unfold setWalk setsByText
  refine wpAny_bind (wpAny_setState_of ho hd hf ?_)
  dsimp only
  refine wpAny_bind (wpAny_bind (wpAny_askSetting (wpAny_pure ?_)))
  rw [if_pos (by exact hbt)]
  refine wpAny_bind (wpAny_askSetting (wpAny_pure (wpAny_pure ?_)))
  rw [List.getElem?_map, Array.getElem?_toList, Option.map_map] at h
  exact h
theorem setNext_led {a : Addr} {o : Obj} {es : Array (Int × Value)} {ep i k : Nat} {t : SetTable} {Q : Option (Value × Nat) → Shared → Prop} (ho : s.heap.get? a = some o) (hd : o.data = .set es ep t) (hf : t.fits es.size = true) (hbt : w.params.followText "set-order" = false) (h1 : es.size ≤ 1) (hled : es.size ≠ 0 → t.led = true)
    (h : Q (match es[SetTable.below t.place k]?, t.place[SetTable.below t.place k]? with | some (_, x), some j => some (x, j + 1) | _, _ => none) s) : wpAny (model prog w) A (setNext a k i ep) Q E s := by
  unfold setNext setsByText
  refine wpAny_bind (wpAny_setState_of ho hd hf ?_)
  dsimp only
  refine wpAny_bind (wpAny_bind (wpAny_askSetting (wpAny_pure ?_)))
  rw [if_neg (by show ¬ w.params.followText "set-order" = true; rw [hbt]; simp), if_neg (by show ¬ ((!t.plain && decide (es.size > 1)) = true); simp; omega)]
  refine wpAny_bind ?_
  show wpAny _ _ (if (!t.led && !es.isEmpty) = true then _ else _) _ _ s
  rw [if_neg (by
    by_cases h0 : es.size = 0
    · have : es.isEmpty = true := by simp [Array.isEmpty, h0]
      simp [this]
    · simp [hled h0])]
  exact wpAny_pure (wpAny_pure h)
theorem below_one (j k : Nat) : SetTable.below #[j] k = if j < k then 1 else 0 := by
  unfold SetTable.below
  simp only [List.size_toArray, List.length_cons, List.length_nil, SetTable.below.go]
  simp
theorem one_place {t : SetTable} {n : Nat} (hf : t.fits n = true) (h : n = 1) : ∃ j, t.place = #[j] := by
  simp only [SetTable.fits, Bool.and_eq_true, beq_iff_eq] at hf
  have hs : t.place.size = 1 := hf.1.trans h
  refine ⟨t.place[0], ?_⟩
  apply Array.ext
  · simp [hs]
  · intro i h1 h2
    have : i = 0 := by omega
    subst this
    rfl

theorem pyNext_set_item {it a : Addr} {ys : List Value} {ext : List (Addr × Obj)} {i : Nat} {v : Value} {Q : Option Value → Shared → Prop} (hI : SIter w s.heap it a ys ext i) (hne : a ≠ it) (hex : ∀ p ∈ ext, p.1 ≠ it) (hv : ys[i]? = some v)
    (h : ∀ h', SIter w h' it a ys ext (i + 1) → Heap.ExtBut it s.heap h' → Q (some v) { s with heap := h' }) :
    wpAny (model prog w) A (pyNext (.ref it)) Q E s := by
  obtain ⟨oi, o, es, ep, t, first, hoi, hci, hdi, ho, hd, hf, hyl, hm⟩ := hI
  have hT : s.TypeIs (.ref it) "set_iterator" := ⟨oi, hoi, hci⟩
  have hlt : i < es.size := by rw [← hyl]; exact (List.getElem?_eq_some_iff.mp hv).1
  unfold pyNext
  refine wpAny_bind (wpAny_attempt (wpAny_callSpecial?_slot (name := Str.ofString "__next__") hT slot_setiter_next
    (wpAny_call_entry slot_setiter_next hT entry_setiter_next ?_ (args_setiter_next _))))
  unfold Builtin.«set_iterator.__next__» slotArgs
  refine wpAny_bind (m := (do pure (Value.ref it, ([] : List Value)) : Sem _)) (wpAny_pure ?_)
  refine wpAny_bind (wpAny_fieldsOf hoi hdi ?_)
  show wpAny _ _ (setEntries a >>= _) _ _ s
  refine wpAny_bind (wpAny_setEntries_of ho hd hf ?_)
  rw [if_neg (by simp)]
  have up : ∀ (h₁ : Heap) (f : Obj → Obj), Heap.ExtBut it h₁ (h₁.update it f) := fun h₁ f => (Heap.SameBut.update h₁ it f).extBut
  have u1 : ∀ (x : Value) (k : Nat) (h₁ : Heap) (o₁ : Obj) (vs₁ : Array Value), h₁.get? it = some o₁ → o₁.data = .fields vs₁ → o₁.cls = .type "set_iterator" →
      ∃ o₂, (h₁.update it (Obj.mapFields (·.setIfInBounds k x))).get? it = some o₂ ∧ o₂.cls = .type "set_iterator" ∧ o₂.data = .fields (vs₁.setIfInBounds k x) := fun x k h₁ o₁ vs₁ e d c =>
    ⟨_, Heap.get?_update_self _ e (Obj.isFreed_of_fields (Obj.data_mapFields d _)), (Obj.cls_mapFields ..).trans c, Obj.data_mapFields d _⟩
  rcases hm with ⟨rfl, hbt, rfl, hy⟩ | ⟨T, ps, rfl, rfl, hT2, hpl, hps⟩ | ⟨rfl, hbt, h1, hled, rfl, slot, rfl, h0, hs⟩
  · show wpAny _ _ (setNext a _ _ _ >>= _) _ _ s
    rw [Int.toNat_natCast, Int.toNat_natCast]
    refine wpAny_bind (setNext_text ho hd hf hbt ?_)
    rw [hy, hv]
    dsimp only [Option.map_some]
    obtain ⟨o2, e2, c2, d2⟩ := u1 (rawInt (Int.toNat 0 : Nat)) 0 s.heap oi _ hoi hdi hci
    refine wpAny_bind (wpAny_setField hoi hdi (by simp) ?_)
    obtain ⟨o3, e3, c3, d3⟩ := u1 (rawInt ((i : Int) + 1)) 1 _ o2 _ e2 d2 c2
    refine wpAny_bind (wpAny_setField (s := { s with heap := _ }) e2 d2 (by simp) (wpAny_pure ⟨v, rfl, wpAny_pure (h _ ?_ ((up _ _).trans (up _ _)))⟩))
    exact ⟨o3, o, es, ep, t, .int 0 0, e3, c3, by rw [d3]; simp [rawInt], up _ _ a _ hne (up _ _ a _ hne ho), hd, hf, hyl, .inl ⟨rfl, hbt, rfl, hy⟩⟩
  · show wpAny _ _ (seqItems? (.ref T) >>= _) _ _ s
    have hTn : T ≠ it := hex _ (.head _)
    refine wpAny_bind (wpAny_seqItems hT2 rfl ?_)
    dsimp only
    have hip : i < ps.length := by
      omega
    have hpi := hps i ps[i] (List.getElem?_eq_getElem hip)
    rw [hv] at hpi
    have e : (ps.map fun (p : Nat) => rawInt (p : Int)).toArray[(i : Int).toNat]? = some (.int (ps[i] : Nat) 0) := by
      simp [hip, rawInt]
    rw [e]
    dsimp only
    refine wpAny_bind ?_
    unfold setNextDrawn
    refine wpAny_bind (wpAny_setState_of ho hd hf ?_)
    dsimp only
    rw [if_neg (by simp), Int.toNat_natCast]
    cases hes : es[ps[i]]? with
    | none => rw [hes] at hpi; cases hpi
    | some ev =>
      rw [hes] at hpi
      obtain ⟨e1, v1⟩ := ev
      cases hpi
      dsimp only
      refine wpAny_pure ?_
      obtain ⟨o3, e3, c3, d3⟩ := u1 (rawInt ((i : Int) + 1)) 1 _ oi _ hoi hdi hci
      refine wpAny_bind (wpAny_setField hoi hdi (by simp) (wpAny_pure ⟨v1, rfl, wpAny_pure (h _ ?_ (up _ _))⟩))
      exact ⟨o3, o, es, ep, t, .ref T, e3, c3, by rw [d3]; simp [rawInt], up _ _ a _ hne ho, hd, hf, hyl, .inr (.inl ⟨T, ps, rfl, rfl, up _ _ T _ hTn hT2, hpl, hps⟩)⟩
  · show wpAny _ _ (setNext a _ _ _ >>= _) _ _ s
    rw [Int.toNat_natCast, Int.toNat_natCast, Int.toNat_natCast]
    have hi0 : i = 0 := by omega
    have hs1 : es.size = 1 := by omega
    subst hi0
    rw [h0 rfl]
    obtain ⟨j, hj⟩ := one_place hf hs1
    refine wpAny_bind (setNext_led ho hd hf hbt h1 hled ?_)
    rw [hj, below_one, if_neg (Nat.not_lt_zero _)]
    cases hes : es[0]? with
    | none => rw [Array.getElem?_eq_none_iff] at hes; omega
    | some ev =>
      obtain ⟨e1, v1⟩ := ev
      have hv1 : v1 = v := by
        rw [List.getElem?_map, Array.getElem?_toList, hes] at hv
        exact Option.some.inj hv
      subst hv1
      dsimp only [List.getElem?_toArray, List.getElem?_cons_zero]
      obtain ⟨o2, e2, c2, d2⟩ := u1 (rawInt (((j + 1 : Nat)) : Int)) 0 s.heap oi _ hoi hdi hci
      refine wpAny_bind (wpAny_setField hoi hdi (by simp) ?_)
      obtain ⟨o3, e3, c3, d3⟩ := u1 (rawInt (((0 : Nat) : Int) + 1)) 1 _ o2 _ e2 d2 c2
      refine wpAny_bind (wpAny_setField (s := { s with heap := _ }) e2 d2 (by simp) (wpAny_pure ⟨v1, rfl, wpAny_pure (h _ ?_ ((up _ _).trans (up _ _)))⟩))
      refine ⟨o3, o, es, ep, t, .int (j + 1 : Nat) 0, e3, c3, by rw [d3]; simp [rawInt], up _ _ a _ hne (up _ _ a _ hne ho), hd, hf, hyl, .inr (.inr ⟨rfl, hbt, h1, hled, rfl, j + 1, rfl, fun q => absurd q (by omega), fun j' _ q => ?_⟩)⟩
      rw [hj] at q
      simp at q
      omega

theorem stop_end {it : Addr} {h₀ : Heap} {Q : Option Value → Shared → Prop} (hh : A.handled = none) (k : Heap.ExtBut it h₀ s.heap) (hQ : ∀ h', Heap.ExtBut it h₀ h' → Q none { s with heap := h' }) :
    wpAny (model prog w) A.in1 (newExc (.type "StopIteration") [] >>= fun x => raiseNew x) (fun (fin : Fin) s' =>
        ∃ v, fin = Fin.done (Flow.ret v) ∧ wpAny (model prog w) A (pure (some v)) Q E s')
      (fun e s' => wpAny (model prog w) A (do if ← isInstance e (.type "StopIteration") then pure none else throw e) Q E s') s := by
  refine wpAny_bind ?_
  simp only [newExc, newTuple]
  refine wpAny_bind (wpAny_newObj_type ?_ (by size_fits))
  refine wpAny_bind (m := firstArgMember _ _) (wpAny_of_eq (a := Value.none) (by first | rfl | (simp only [firstArgMember]; rfl)) ?_)
  refine wpAny_newObj_type ?_ (by size_fits)
  simp only [raiseNew]
  refine wpAny_bind (wpAny_handled ?_)
  rw [show A.in1.handled = none from hh]
  refine wpAny_bind (wpAny_pure (wpAny_throw ?_))
  refine wpAny_bind (wpAny_isInstance (T := "StopIteration") (b := true) ⟨_, Heap.get?_push_size _ rfl, rfl⟩ isSubtype_stop ?_)
  exact wpAny_pure (hQ _ ((k.push _).push _))

theorem pyNext_set_end {it a : Addr} {ys : List Value} {ext : List (Addr × Obj)} {i : Nat} {Q : Option Value → Shared → Prop} (hh : A.handled = none) (hI : SIter w s.heap it a ys ext i) (hex : ∀ p ∈ ext, p.1 ≠ it) (hv : i = ys.length)
    (h : ∀ h', Heap.ExtBut it s.heap h' → Q none { s with heap := h' }) :
    wpAny (model prog w) A (pyNext (.ref it)) Q E s := by
  obtain ⟨oi, o, es, ep, t, first, hoi, hci, hdi, ho, hd, hf, hyl, hm⟩ := hI
  have hT : s.TypeIs (.ref it) "set_iterator" := ⟨oi, hoi, hci⟩
  have hlt : i = es.size := by rw [← hyl]; exact hv
  unfold pyNext
  refine wpAny_bind (wpAny_attempt (wpAny_callSpecial?_slot (name := Str.ofString "__next__") hT slot_setiter_next
    (wpAny_call_entry slot_setiter_next hT entry_setiter_next ?_ (args_setiter_next _))))
  unfold Builtin.«set_iterator.__next__» slotArgs
  refine wpAny_bind (m := (do pure (Value.ref it, ([] : List Value)) : Sem _)) (wpAny_pure ?_)
  refine wpAny_bind (wpAny_fieldsOf hoi hdi ?_)
  show wpAny _ _ (setEntries a >>= _) _ _ s
  refine wpAny_bind (wpAny_setEntries_of ho hd hf ?_)
  rw [if_neg (by simp)]
  have up : ∀ (h₁ : Heap) (f : Obj → Obj), Heap.ExtBut it h₁ (h₁.update it f) := fun h₁ f => (Heap.SameBut.update h₁ it f).extBut
  have u1 : ∀ (x : Value) (k : Nat) (h₁ : Heap) (o₁ : Obj) (vs₁ : Array Value), h₁.get? it = some o₁ → o₁.data = .fields vs₁ → o₁.cls = .type "set_iterator" →
      ∃ o₂, (h₁.update it (Obj.mapFields (·.setIfInBounds k x))).get? it = some o₂ ∧ o₂.cls = .type "set_iterator" ∧ o₂.data = .fields (vs₁.setIfInBounds k x) := fun x k h₁ o₁ vs₁ e d c =>
    ⟨_, Heap.get?_update_self _ e (Obj.isFreed_of_fields (Obj.data_mapFields d _)), (Obj.cls_mapFields ..).trans c, Obj.data_mapFields d _⟩
  rcases hm with ⟨rfl, hbt, rfl, hy⟩ | ⟨T, ps, rfl, rfl, hT2, hpl, hps⟩ | ⟨rfl, hbt, h1, hled, rfl, slot, rfl, h0, hs⟩
  · show wpAny _ _ (setNext a _ _ _ >>= _) _ _ s
    rw [Int.toNat_natCast, Int.toNat_natCast]
    refine wpAny_bind (setNext_text ho hd hf hbt ?_)
    rw [hy, List.getElem?_eq_none (by omega)]
    dsimp only [Option.map_none]
    refine wpAny_bind (wpAny_setField hoi hdi (by simp) ?_)
    exact stop_end hh (up _ _) h
  · show wpAny _ _ (seqItems? (.ref T) >>= _) _ _ s
    refine wpAny_bind (wpAny_seqItems hT2 rfl ?_)
    dsimp only
    have hip : ps.length ≤ i := by
      omega
    have e : (ps.map fun (p : Nat) => rawInt (p : Int)).toArray[(i : Int).toNat]? = none := by
      simp [hip]
    rw [e]
    dsimp only
    obtain ⟨o2, e2, c2, d2⟩ := u1 (rawInt 0) 0 s.heap oi _ hoi hdi hci
    refine wpAny_bind (wpAny_setField hoi hdi (by simp) ?_)
    refine wpAny_bind (wpAny_setField (s := { s with heap := _ }) e2 d2 (by simp) ?_)
    exact stop_end hh ((up _ _).trans (up _ _)) h
  · show wpAny _ _ (setNext a _ _ _ >>= _) _ _ s
    rw [Int.toNat_natCast, Int.toNat_natCast, Int.toNat_natCast]
    refine wpAny_bind (setNext_led ho hd hf hbt h1 hled ?_)
    have hn : es[SetTable.below t.place slot]? = none := by
      rw [Array.getElem?_eq_none_iff]
      by_cases hz : es.size = 0
      · omega
      · obtain ⟨j, hj⟩ := one_place hf (by omega : es.size = 1)
        rw [hs j (by omega) (by rw [hj]; rfl), hj, below_one, if_pos (Nat.lt_succ_self j)]
        omega
    rw [hn]
    dsimp only
    refine wpAny_bind (wpAny_setField hoi hdi (by simp) ?_)
    exact stop_end hh (up _ _) h
end
end TM3
end Mine

namespace Mine
section TM4
open PySem PySem.W PyProof.Rows PySem.Calls
set_option maxRecDepth 100000
set_option maxHeartbeats 400000
theorem SIter.keeps {w : World} {h h' : Heap} {it a : Addr} {ys : List Value} {ext : List (Addr × Obj)} {i : Nat} (hI : SIter w h it a ys ext i) (k1 : ∀ o, h.get? it = some o → h'.get? it = some o) (k2 : ∀ o, h.get? a = some o → h'.get? a = some o) (k3 : ∀ p ∈ ext, h.get? p.1 = some p.2 → h'.get? p.1 = some p.2) : SIter w h' it a ys ext i := by
  obtain ⟨oi, o, es, ep, t, first, hoi, hci, hdi, ho, hd, hf, hyl, hm⟩ := hI
  refine ⟨oi, o, es, ep, t, first, k1 _ hoi, hci, hdi, k2 _ ho, hd, hf, hyl, ?_⟩
  rcases hm with h1 | ⟨T, ps, rfl, rfl, hT2, hpl, hps⟩ | h3
  · exact .inl h1
  · exact .inr (.inl ⟨T, ps, rfl, rfl, k3 _ (.head _) hT2, hpl, hps⟩)
  · exact .inr (.inr h3)
theorem SIter.size {w : World} {h : Heap} {it a : Addr} {ys : List Value} {ext : List (Addr × Obj)} {i : Nat} (hI : SIter w h it a ys ext i) : ∃ oi, h.get? it = some oi := by
  obtain ⟨oi, o, es, ep, t, first, hoi, _⟩ := hI
  exact ⟨oi, hoi⟩
inductive SEnd (g : Heap) (L it : Addr) (oi : Obj) (dr : Drawn) (news ext : List (Addr × Obj)) (s : Shared) (J : (Str → Option Value) → Prop) (s₃ : Shared) : Prop
  | mk (h'' : Heap) (tk'' : Nat) (m'' : Str → Option Value) (e : s₃ = { s with heap := h'', toks := tk'', drawn := dr }) (F : Fr g L h'' m'') (N : News g L h'' ((it, oi) :: (news ++ ext))) (hJ : J m'') : SEnd g L it oi dr news ext s J s₃
inductive SIn (w : World) (g : Heap) (L it a : Addr) (dr : Drawn) (news ext : List (Addr × Obj)) (ys : List Value) (s : Shared) (I : Nat → (Str → Option Value) → Prop) (k : Nat) (s' : Shared) : Prop
  | mk (h' : Heap) (tk : Nat) (m' : Str → Option Value) (i : Nat) (oi : Obj) (e : s' = { s with heap := h', toks := tk, drawn := dr }) (F : Fr g L h' m') (N : News g L h' ((it, oi) :: (news ++ ext))) (hI : SIter w h' it a ys ext i) (hJ : I i m') (hi : i ≤ ys.length) (hk : k = ys.length + 1 - i) : SIn w g L it a dr news ext ys s I k s'
section
variable {prog : Program} {w : World} {A : Around} {s : Shared} {env : Env} {x : Str} {px : Pos} {body orelse : List Stmt} {Q : Flow → Shared → Prop}
theorem iter_set {g : Heap} {L a : Addr} {o : Obj} {m : Str → Option Value} {news : List (Addr × Obj)} {vs : List (Str × Tok)} (hh : A.handled = none)
    (I : List Value → Nat → (Str → Option Value) → Prop) (F : Fr g L s.heap m) (N : News g L s.heap news) (hm : (a, o) ∈ news) {led : Bool} (hS : SetIs prog w led o vs) (hlw : vs ≠ [] → led = ledOf w) (hz : vs.length ≤ 100)
    (h0 : ∀ ys, List.Perm ys (strValues vs) → I ys 0 m)
    (turn : ∀ it oi ext ys i v m' h' tk dr, List.Perm ys (strValues vs) → ys[i]? = some v → I ys i m' → Fr g L h' m' → News g L h' ((it, oi) :: (news ++ ext)) → AllNe it (news ++ ext) → (∀ p ∈ news, ∀ q ∈ ext, p.1 < q.1) →
      wpAny (model prog w) A (assign (.Name x px) env v) (fun _ s₂ => wpAny (model prog w) A (execs body env) (fun f s₃ => match f with
        | .ret v => Q (.ret v) s₃
        | .brk => Q .next s₃
        | _ => Stop (SEnd g L it oi dr news ext s (I ys (i + 1)) s₃)) no s₂) no { s with heap := h', toks := tk, drawn := dr })
    (done : ∀ ys m' h' tk dr, List.Perm ys (strValues vs) → I ys ys.length m' → Fr g L h' m' → News g L h' news → wpAny (model prog w) A (execs orelse env) Q no { s with heap := h', toks := tk, drawn := dr }) :
    wpAny (model prog w) A (pyIter (.ref a)) (fun it s₂ => codeAny (model prog w) A (.forLoop (.Name x px) it body orelse env) (fun r s' => match r with | .ok f => Q f s' | .error e => cameBackBy (model prog w) A env no e s') s₂) no s := by
  refine pyIter_set (N _ hm).1 hS hlw hz fun ys ext h₁ dr hp hI hst hle hext hsz => ?_
  obtain ⟨oi0, hoi0⟩ := hI.size
  generalize hit : h₁.objs.size.pred = it at *
  have hlt : ∀ p ∈ news, p.1 < s.heap.objs.size := fun p hp => Heap.lt_size (N p hp).1
  have hLt : L < s.heap.objs.size := F.ns.lt
  have gn : ∀ b, s.heap.objs.size ≤ b → g.get? b = none := fun b hb => by
    cases q : g.get? b with
    | none => rfl
    | some o => exact absurd (Nat.lt_of_lt_of_le (Heap.lt_size (F.keep _ _ q)) hb) (Nat.lt_irrefl _)
  have all : ∀ p ∈ news ++ ext, p.1 < it := fun p hp => by
    rcases List.mem_append.mp hp with q | q
    · exact Nat.lt_of_lt_of_le (hlt p q) hle
    · exact (hext p q).1
  have ane : AllNe it (news ++ ext) := allNe_of fun p hp => Nat.ne_of_lt (all p hp)
  have ame : (a, o) ∈ news ++ ext := List.mem_append_left _ hm
  have ani : a ≠ it := Nat.ne_of_lt (all _ ame)
  have ord : ∀ p ∈ news, ∀ q ∈ ext, p.1 < q.1 := fun p hp q hq => Nat.lt_of_lt_of_le (hlt p hp) (hext q hq).2.1
  have N1 : News g L h₁ (news ++ ext) := fun p hp => by
    rcases List.mem_append.mp hp with q | q
    · exact ⟨hst _ _ (N p q).1, (N p q).2⟩
    · exact ⟨(hext p q).2.2, Nat.ne_of_gt (Nat.lt_of_lt_of_le hLt (hext p q).2.1), gn _ (hext p q).2.1⟩
  refine codeAny_forLoop_any (SIn w g L it a dr news ext ys s (I ys))
    (fun k s' hJ => ?_) (ys.length + 1) ?_
  · obtain ⟨h', tk, m', i, oi, rfl, F1, N2, hI2, hJ, hi, rfl⟩ := hJ
    have z := N2 _ (.head _)
    have fin : ∀ {h₂ : Heap}, Heap.ExtBut it h' h₂ → Fr g L h₂ m' ∧ News g L h₂ (news ++ ext) := by
      intro h₂ k
      refine ⟨fr_kept F1 N2 (.head _) (fun b o nb e => k b o (fun q => nb (by rw [q]; exact .head _)) e), fun p hp => ?_⟩
      have y := N2 p (.tail _ hp)
      exact ⟨k _ _ (allNe_mem ane p hp) y.1, y.2⟩
    cases hv : ys[i]? with
    | none =>
      have hsz' : i = ys.length := Nat.le_antisymm hi (by simpa using hv)
      refine pyNext_set_end (s := { s with heap := h', toks := tk, drawn := dr }) hh hI2 (fun p hp => Nat.ne_of_lt (hext p hp).1) hsz' fun h₂ k => ?_
      obtain ⟨F2, N3⟩ := fin k
      exact wpAny_mono (done ys m' h₂ tk dr hp (hsz' ▸ hJ) F2 fun p hp => N3 p (List.mem_append_left _ hp)) (fun f s₃ q => q) fun _ _ q => q.elim
    | some v =>
      have hlt' : i < ys.length := (List.getElem?_eq_some_iff.mp hv).1
      refine pyNext_set_item (s := { s with heap := h', toks := tk, drawn := dr }) hI2 ani (fun p hp => Nat.ne_of_lt (hext p hp).1) hv fun h₂ hI3 k => ?_
      obtain ⟨F2, N3⟩ := fin k
      obtain ⟨o₁, ho₁⟩ := hI3.size
      have N4 : News g L h₂ ((it, o₁) :: (news ++ ext)) := by
        intro p hp
        rcases List.mem_cons.mp hp with rfl | hp
        · exact ⟨ho₁, z.2⟩
        · exact N3 p hp
      show wpAny _ _ (pure ()) _ _ _
      refine wpAny_pure ?_
      refine wpAny_mono (turn it o₁ ext ys i v m' h₂ tk dr hp hv hJ F2 N4 ane ord) (fun _ s₂ q => wpAny_mono q (fun f s₃ q => ?_) fun _ _ q => q.elim) fun _ _ q => q.elim
      have nx : Stop (SEnd g L it o₁ dr news ext s (I ys (i + 1)) s₃) →
          ∃ k', k' < ys.length + 1 - i ∧ SIn w g L it a dr news ext ys s (I ys) k' s₃ := by
        rintro ⟨h'', tk'', m'', rfl, F4, N5, hJ4⟩
        refine ⟨ys.length + 1 - (i + 1), by omega, h'', tk'', m'', i + 1, o₁, rfl, F4, N5, hI3.keeps (fun o' e => ?_) (fun o' e => ?_) (fun p hp e => ?_), hJ4, hlt', rfl⟩
        · rw [ho₁] at e; cases e; exact (N5 _ (.head _)).1
        · have e1 := (N4 _ (.tail _ ame)).1
          rw [e1] at e; cases e; exact (N5 _ (.tail _ ame)).1
        · exact (N5 p (.tail _ (List.mem_append_right _ hp))).1
      cases f with
      | next => exact nx q
      | cont => exact nx q
      | brk => exact q
      | ret v => exact q
  · refine ⟨h₁, s.toks, m, 0, oi0, rfl, fr_stay F hst, ?_, hI, h0 ys hp, Nat.zero_le _, rfl⟩
    intro p hp
    rcases List.mem_cons.mp hp with rfl | hp
    · exact ⟨hoi0, Nat.ne_of_gt (Nat.lt_of_lt_of_le hLt hle), gn _ hle⟩
    · exact N1 p hp
end
end TM4
end Mine

namespace Mine
section TM5
open PySem PySem.W PyProof.Rows PySem.Calls
set_option maxRecDepth 100000
set_option maxHeartbeats 400000
/-- where a comprehension's turn ends -/
inductive CEnd (g : Heap) (L C : Addr) (s : Shared) (oL : Obj) (it : Addr) (oi : Obj) (D n : Nat) (ys : List Value) (J : List (Addr × Obj) → Prop) (s₃ : Shared) : Prop
  | mk (h'' : Heap) (tk'' : Nat) (m'' : Str → Option Value) (news'' : List (Addr × Obj)) (e : s₃ = { s with heap := h'', toks := tk'' }) (F : Fr g C h'' m'') (N : News g C h'' news'') (hL : h''.get? L = some oL) (hi : h''.get? it = some oi) (hD : h''.get? D = some (listOf ys.toArray n)) (a1 : AllNe L news'') (a2 : AllNe it news'') (a3 : AllNe D news'') (hJ : J news'') : CEnd g L C s oL it oi D n ys J s₃
inductive CIn (g : Heap) (L C : Addr) (oL : Obj) (it D l : Addr) (vs : Array Value) (s : Shared) (I : Nat → List Value → List (Addr × Obj) → Prop) (k : Nat) (s' : Shared) : Prop
  | mk (h' : Heap) (tk : Nat) (m' : Str → Option Value) (ys : List Value) (n : Nat) (news' : List (Addr × Obj)) (i : Nat) (oi : Obj) (e : s' = { s with heap := h', toks := tk }) (F : Fr g C h' m') (N : News g C h' news') (hL : h'.get? L = some oL) (hit : h'.get? it = some oi) (hD : h'.get? D = some (listOf ys.toArray n)) (a1 : AllNe L news') (a2 : AllNe it news') (a3 : AllNe D news') (hiter : h'.IsListIter it l i) (hJ : I i ys news') (hi : i ≤ vs.size) (hyi : ys.length ≤ i) (hk : k = vs.size + 1 - i) : CIn g L C oL it D l vs s I k s'

section
variable {prog : Program} {w : World} {A : Around} {s : Shared} {env : Env} {elt target iter : PySem.Expr} {ifs : List PySem.Expr} {scope : Scope} {pos : Pos} {cl : List (Str × Addr)}
theorem compLoop_any {R : Result → Shared → Prop} {it acc : Value} (I : Nat → Shared → Prop)
    (turn : ∀ n s, I n s → wpAny (model prog w) A (pyNext it) (fun r s₁ => match r with
      | none => R (.ok .next) s₁
      | some v => wpAny (model prog w) A (letOwnedTupleGo target it v) (fun _ s₁ => wpAny (model prog w) A (assign target env v) (fun _ s₂ =>
          wpAny (model prog w) A (forIn ifs true fun c r => if r = true then do let ok ← isTrue c env (eval c env); pure (ForInStep.yield ok) else pure (ForInStep.yield r)) (fun ok s₃ =>
            if ok = true then wpAny (model prog w) A (eval elt env) (fun x s₄ =>
              wpAny (model prog w) A (call (.builtin "list.append") [acc, x]) (fun _ s₅ => ∃ m, m < n ∧ I m s₅) (notedBy (model prog w) A env fun e s' => R (.error e) s') s₄) (notedBy (model prog w) A env fun e s' => R (.error e) s') s₃
            else ∃ m, m < n ∧ I m s₃) (notedBy (model prog w) A env fun e s' => R (.error e) s') s₂) (notedBy (model prog w) A env fun e s' => R (.error e) s') s₁) (notedBy (model prog w) A env fun e s' => R (.error e) s') s₁) (notedBy (model prog w) A env fun e s' => R (.error e) s') s)
    (n : Nat) (h : I n s) :
    codeAny (model prog w) A (.compLoop (.ListComp elt [⟨target, iter, ifs, 0⟩] scope pos) 0 it acc env) R s := by
  refine codeAny_loop rfl I (fun n s hI => ?_) n h
  show wpAny _ A ((compTurn (.ListComp elt [⟨target, iter, ifs, 0⟩] scope pos) 0 it acc env).onRaise (fun x => do noteFrame x env; theTreesLotGoes x)) _ _ s
  refine wpAny_noted ?_
  rw [compTurn_list]
  refine wpAny_bind (wpAny_standAt (wpAny_bind (wpAny_mono (turn n s hI) (fun r s₁ h₁ => ?_) fun _ _ h' => h')))
  cases r with
  | none => exact wpAny_pure h₁
  | some v =>
    refine wpAny_bind (wpAny_mono h₁ (fun _ s₁ h₁ => wpAny_bind (wpAny_mono h₁ (fun _ s₂ h₂ => wpAny_bind (wpAny_mono h₂ (fun ok s₃ h₃ => ?_) fun _ _ h' => h')) fun _ _ h' => h')) fun _ _ h' => h')
    cases ok with
    | false => exact wpAny_pure ⟨rfl, h₃⟩
    | true =>
      exact wpAny_bind (wpAny_bind (wpAny_mono h₃ (fun x s₄ h₄ => wpAny_bind (wpAny_mono h₄ (fun _ s₅ h₅ => wpAny_pure (wpAny_pure ⟨rfl, h₅⟩)) fun _ _ h' => h')) fun _ _ h' => h'))

/-- the block of a comprehension over what it iterates -/
def CompGo (prog : Program) (w : World) (A : Around) (elt target iter : PySem.Expr) (ifs : List PySem.Expr) (scope : Scope) (pos : Pos) (cl : List (Str × Addr)) (env : Env) (RR : Value → Addr → Result → Shared → Prop) (xv : Value) (s : Shared) : Prop :=
  wpAny (model prog w) A (pyIter xv) (fun it s₂ => wpAny (model prog w) A (newList []) (fun acc s₃ => wpAny (model prog w) A (newFunctionEnv scope env.globals cl [] env.qual none .none (some env)) (fun cenv s₄ =>
      codeAny (model prog w) A (.compStart (.ListComp elt [⟨target, iter, ifs, 0⟩] scope pos) 0 it acc { cenv with scope := relabel scope env }) (RR acc cenv.locals) s₄) no s₃) no s₂) no s
theorem toks_gen {M : Model} {A : Around} {α : Type} {t : Sem α} {Q : α → Shared → Prop} {E : Value → Shared → Prop} {s : Shared} (h : ∀ tk, wpAny M A t Q E { s with toks := tk }) : wpAny M A t Q E s := h s.toks

theorem comp_block {g : Heap} {L l : Addr} {m : Str → Option Value} {news : List (Addr × Obj)} {vs : Array Value} {RR : Value → Addr → Result → Shared → Prop} (hh : A.handled = none)
    (I : Nat → List Value → List (Addr × Obj) → Prop) (F : Fr g L s.heap m) (N : News g L s.heap news) (hl : s.heap.IsList l vs) (hz : vs.size ≤ 1000)
    (hcell : ∀ y ∈ scope.names, y.2 ≠ .cell) (hkind : scope.kind = .function)
    (h0 : I 0 [] news)
    (keep : ∀ C i m' ys news' h', I i ys news' → Fr g C h' m' → News g C h' news' → h'.IsList l vs)
    (turn : ∀ C it D oL oi n i ys v m' news' h' tk, (∀ p ∈ news, p.1 < it) → L < it → it < D → D < C → AllNe L news' → AllNe it news' → AllNe D news' → vs[i]? = some v → I i ys news' → Fr g C h' m' → News g C h' ((L, oL) :: (it, oi) :: (D, listOf ys.toArray n) :: news') →
      wpAny (model prog w) A (assign target (compEnvC scope cl C env) v) (fun _ s₂ => wpAny (model prog w) A (forIn ifs true fun c r => if r = true then do let ok ← isTrue c (compEnvC scope cl C env) (eval c (compEnvC scope cl C env)); pure (ForInStep.yield ok) else pure (ForInStep.yield r)) (fun ok s₃ =>
        if ok = true then wpAny (model prog w) A (eval elt (compEnvC scope cl C env)) (fun x s₄ => Stop (CEnd g L C s oL it oi D n ys (I (i + 1) (ys ++ [x])) s₄)) no s₃
        else Stop (CEnd g L C s oL it oi D n ys (I (i + 1) ys) s₃)) no s₂) no { s with heap := h', toks := tk })
    (done : ∀ C D oL n ys m' news' h' tk, L < D → D < C → L < C → h'.get? L = some oL → AllNe L news' → AllNe D news' → I vs.size ys news' → Fr g C h' m' → News g C h' ((L, oL) :: (D, listOf ys.toArray n) :: news') → h'.Ns L m → RR (.ref D) C (.ok .next) { s with heap := h', toks := tk }) :
    CompGo prog w A elt target iter ifs scope pos cl env RR (.ref l) s := by
  unfold CompGo
  refine wpAny_pyIter_list hl ?_
  refine wpAny_newObj_type (wpAny_newFunctionEnv hcell (by intro y hy; simp at hy) (fun h₁ hns₁ hsb₁ => ?_) hkind)
  dsimp only at hns₁ hsb₁ ⊢
  have sz : ∀ (h : Heap) (x : Obj), (h.push x).objs.size = h.objs.size + 1 := fun h x => Heap.size_push h x
  generalize hH1 : s.heap.push { cls := .type "list_iterator", data := .fields #[.ref l, .int 0 0] } = H1 at hns₁ hsb₁ ⊢
  generalize hH2 : H1.push { cls := .type "list", dict := none, data := .seq ([] : List Value).toArray } = H2 at hns₁ hsb₁ ⊢
  have s1 : H1.objs.size = s.heap.objs.size + 1 := by rw [← hH1, sz]
  have s2 : H2.objs.size = H1.objs.size + 1 := by rw [← hH2, sz]
  have e1 : ∀ b o, s.heap.get? b = some o → H2.get? b = some o := fun b o e => by rw [← hH2, ← hH1]; exact Heap.get?_push_of_some _ (Heap.get?_push_of_some _ e)
  have e2 : H2.get? s.heap.objs.size = some { cls := .type "list_iterator", data := .fields #[.ref l, .int 0 0] } := by rw [← hH2, ← hH1]; exact Heap.get?_push_of_some _ (Heap.get?_push_size _ rfl)
  have e3 : H2.get? H1.objs.size = some (listOf #[] 0) := by rw [← hH2]; exact Heap.get?_push_size _ rfl
  generalize hit : s.heap.objs.size = it at *
  generalize hD : H1.objs.size = D at *
  generalize hC : H2.objs.size = C at *
  have lD : it < D := by rw [s1]; exact Nat.lt_succ_self _
  have lC : D < C := by rw [s2]; exact Nat.lt_succ_self _
  have hLt : L < it := hit ▸ F.ns.lt
  have hlt : ∀ p ∈ news, p.1 < it := fun p hp => hit ▸ Heap.lt_size (N p hp).1
  have old : ∀ b o, s.heap.get? b = some o → h₁.get? b = some o := fun b o e => hsb₁.extBut b o (Nat.ne_of_lt (Nat.lt_trans (hit ▸ Heap.lt_size e) (Nat.lt_trans lD lC))) (Heap.get?_push_of_some _ (e1 b o e))
  have gn : ∀ b, it ≤ b → g.get? b = none := fun b hb => by
    cases q : g.get? b with
    | none => rfl
    | some o => exact absurd (Nat.lt_of_lt_of_le (hit ▸ Heap.lt_size (F.keep _ _ q)) hb) (Nat.lt_irrefl _)
  have gL : g.get? L = none := by
    cases q : g.get? L with
    | none => rfl
    | some o => exact absurd (Nat.lt_of_lt_of_le (Heap.lt_size q) F.above) (Nat.lt_irrefl _)
  obtain ⟨oL, esL, epL, hoL, rL⟩ := F.ns
  have i1 : h₁.get? it = some { cls := .type "list_iterator", data := .fields #[.ref l, .int 0 0] } := hsb₁.extBut _ _ (Nat.ne_of_lt (Nat.lt_trans lD lC)) (Heap.get?_push_of_some _ e2)
  have i2 : h₁.get? D = some (listOf #[] 0) := hsb₁.extBut _ _ (Nat.ne_of_lt lC) (Heap.get?_push_of_some _ e3)
  have F1 : Fr g C h₁ (fun x => ([] : List (Str × Value)).reverse.lookup x) := ⟨hns₁, fun b o e => old b o (F.keep b o e), Nat.le_trans F.above (Nat.le_of_lt (Nat.lt_trans hLt (Nat.lt_trans lD lC)))⟩
  have N1 : News g C h₁ news := fun p hp => ⟨old _ _ (N p hp).1, Nat.ne_of_lt (Nat.lt_trans (hlt p hp) (Nat.lt_trans lD lC)), (N p hp).2.2⟩
  have aL : AllNe L news := allNe_of fun p hp => (N p hp).2.1
  have aI : AllNe it news := allNe_of fun p hp => Nat.ne_of_lt (hlt p hp)
  have aD : AllNe D news := allNe_of fun p hp => Nat.ne_of_lt (Nat.lt_trans (hlt p hp) lD)
  have nLC : L ≠ C := Nat.ne_of_lt (Nat.lt_trans hLt (Nat.lt_trans lD lC))
  have nIC : it ≠ C := Nat.ne_of_lt (Nat.lt_trans lD lC)
  have nDC : D ≠ C := Nat.ne_of_lt lC
  have nLI : L ≠ it := Nat.ne_of_lt hLt
  have nLD : L ≠ D := Nat.ne_of_lt (Nat.lt_trans hLt lD)
  have nID : it ≠ D := Nat.ne_of_lt lD
  have led : ∀ {h : Heap} {oi : Obj} {ys : List Value} {n : Nat} {news' : List (Addr × Obj)}, h.get? L = some oL → h.get? it = some oi → h.get? D = some (listOf ys.toArray n) → News g C h news' → News g C h ((L, oL) :: (it, oi) :: (D, listOf ys.toArray n) :: news') := by
    intro h oi ys n news' a b c d p hp
    rcases List.mem_cons.mp hp with rfl | hp
    · exact ⟨a, nLC, gL⟩
    rcases List.mem_cons.mp hp with rfl | hp
    · exact ⟨b, nIC, gn _ (Nat.le_refl _)⟩
    rcases List.mem_cons.mp hp with rfl | hp
    · exact ⟨c, nDC, gn _ (Nat.le_of_lt lD)⟩
    exact d p hp
  have loop : ∀ s₃ : Shared, s₃ = { s with heap := h₁, toks := s.toks + ([] : List (Str × Value)).length } → codeAny (model prog w) A (.compLoop (.ListComp elt [⟨target, iter, ifs, 0⟩] scope pos) 0 (.ref it) (.ref D) (compEnvC scope cl C env)) (RR (.ref D) C) s₃ := by
    rintro s₃ rfl
    refine compLoop_any (CIn g L C oL it D l vs s I)
      (fun k s' hI => ?_) (vs.size + 1) ⟨h₁, _, _, [], 0, news, 0, _, rfl, F1, N1, old _ _ hoL, i1, i2, aL, aI, aD, ⟨_, i1, rfl, rfl⟩, h0, Nat.zero_le _, Nat.le_refl _, rfl⟩
    · obtain ⟨h', tk, m', ys, n, news', i, oi, rfl, F2, N2, gL2, gi2, gD2, a1, a2, a3, hiter, hJ, hi, hyi, rfl⟩ := hI
      have hl' : h'.IsList l vs := keep C i m' ys news' h' hJ F2 N2
      have fin : ∀ {h₂ : Heap}, Heap.ExtBut it h' h₂ → Fr g C h₂ m' ∧ News g C h₂ news' ∧ h₂.get? L = some oL ∧ h₂.get? D = some (listOf ys.toArray n) := by
        intro h₂ k
        refine ⟨fr_kept F2 (news := [(it, oi)]) (fun p hp => ?_) (.head _) (fun b o nb e => k b o (fun q => nb (by rw [q]; exact .head _)) e), fun p hp => ?_, k _ _ nLI gL2, k _ _ (Ne.symm nID) gD2⟩
        · rw [List.mem_singleton.mp hp]; exact ⟨gi2, nIC, gn _ (Nat.le_refl _)⟩
        · exact ⟨k _ _ (allNe_mem a2 p hp) (N2 p hp).1, (N2 p hp).2⟩
      cases hv : vs[i]? with
      | none =>
        have hsz : i = vs.size := Nat.le_antisymm hi (by simpa using hv)
        refine wpAny_pyNext_list_end hh hiter hl' hv fun h₂ he₂ => ?_
        obtain ⟨F3, N3, gL3, gD3⟩ := fin he₂
        refine done C D oL n ys m' news' h₂ tk (Nat.lt_trans hLt lD) lC (Nat.lt_trans hLt (Nat.lt_trans lD lC)) gL3 a1 a3 (hsz ▸ hJ) F3 (fun p hp => ?_) ⟨oL, esL, epL, gL3, rL⟩
        rcases List.mem_cons.mp hp with rfl | hp
        · exact ⟨gL3, nLC, gL⟩
        rcases List.mem_cons.mp hp with rfl | hp
        · exact ⟨gD3, nDC, gn _ (Nat.le_of_lt lD)⟩
        exact N3 p hp
      | some v =>
        have hlt' : i < vs.size := (Array.getElem?_eq_some_iff.mp hv).1
        refine wpAny_pyNext_list_item hiter hl' hv fun h₂ hit₁ hs₁ => ?_
        obtain ⟨F3, N3, gL3, gD3⟩ := fin hs₁.extBut
        obtain ⟨o₁, ho₁, hc₁, hd₁⟩ := id hit₁
        have back : ∀ {s₄ : Shared} {ys' : List Value}, Stop (CEnd g L C s oL it o₁ D n ys (I (i + 1) ys') s₄) → CEnd g L C s oL it o₁ D n ys (I (i + 1) ys') s₄ := fun q => q
        refine wpAny_mono (own_list (s := { s with heap := h₂, toks := tk }) hit₁ ?_) (fun _ _ q => q) fun _ _ q => q.elim
        refine wpAny_mono (turn C it D oL o₁ n i ys v m' news' h₂ tk hlt hLt lD lC a1 a2 a3 hv hJ F3 (led gL3 ho₁ gD3 N3)) (fun _ s₂ q => wpAny_mono q (fun ok s₃ q => ?_) fun _ _ q => q.elim) fun _ _ q => q.elim
        cases ok with
        | false =>
          simp only [Bool.false_eq_true, if_false] at q ⊢
          obtain ⟨h4, tk4, m4, news4, rfl, F4, N4, gL4, gi4, gD4, b1, b2, b3, hJ4⟩ := back q
          exact ⟨vs.size + 1 - (i + 1), by omega, h4, tk4, m4, ys, n, news4, i + 1, o₁, rfl, F4, N4, gL4, gi4, gD4, b1, b2, b3, ⟨o₁, gi4, hc₁, hd₁⟩, hJ4, hlt', Nat.le_succ_of_le hyi, rfl⟩
        | true =>
          simp only [if_true] at q ⊢
          refine wpAny_mono q (fun x s₄ q => ?_) fun _ _ q => q.elim
          obtain ⟨h4, tk4, m4, news4, rfl, F4, N4, gL4, gi4, gD4, b1, b2, b3, hJ4⟩ := back q
          refine wpAny_list_append_plain ⟨n, gD4⟩ (fun h5 hp5 hs5 => ?_) (by simp only [List.size_toArray, sizeLine]; omega)
          obtain ⟨n5, gD5⟩ := hp5
          have ey : ys.toArray.push x = (ys ++ [x]).toArray := by simp
          rw [ey] at gD5
          have k5 : ∀ b o, b ≠ D → h4.get? b = some o → h5.get? b = some o := fun b o nb e => hs5.extBut b o nb e
          refine ⟨vs.size + 1 - (i + 1), by omega, h5, tk4, m4, ys ++ [x], n5, news4, i + 1, o₁, rfl, ?_, ?_, k5 _ _ nLD gL4, k5 _ _ nID gi4, gD5, b1, b2, b3, ⟨o₁, k5 _ _ nID gi4, hc₁, hd₁⟩, hJ4, hlt', ?_, rfl⟩
          · exact fr_kept F4 (news := [(D, listOf ys.toArray n)]) (fun p hp => by rw [List.mem_singleton.mp hp]; exact ⟨gD4, nDC, gn _ (Nat.le_of_lt lD)⟩) (.head _) (fun b o nb e => k5 b o (fun q => nb (by rw [q]; exact .head _)) e)
          · exact fun p hp => ⟨k5 _ _ (allNe_mem b3 p hp) (N4 p hp).1, (N4 p hp).2⟩
          · simp only [List.length_append, List.length_singleton]; omega
  refine codeAny_compStart_list (loop _ rfl) (wpAny_pyIter_listiter ⟨_, i1, rfl, rfl⟩ (loop _ rfl))

theorem comp_eval {Q : Value → Shared → Prop}
    (hclos : closureFor scope env = pure cl) (hkind : scope.kind = .function)
    (hnames : ∀ y ∈ scope.names, y.2 = .local → scope.names.lookup y.1 = some .local) (hs : ∀ x, foldedSetIterable iter env x = pure x)
    (h : wpAny (model prog w) A (eval iter env) (fun xv s₁ => Stop (CompGo prog w A elt target iter ifs scope pos cl env (fun acc C => compPost (model prog w) A no none Q acc C) xv s₁)) no s) :
    wpAny (model prog w) A (eval (.ListComp elt [⟨target, iter, ifs, 0⟩] scope pos) env) Q no s := by
  rw [eval_ListComp]
  exact wpAny_comprehension_free (use := none) rfl hs hclos hkind hnames (wpAny_mono h (fun xv s₁ h₁ => h₁) fun _ _ e => e)
theorem comp_assign {x : Str} {px spos : Pos} {Q : Flow → Shared → Prop}
    (hsw : swapsWith (.ListComp elt [⟨target, iter, ifs, 0⟩] scope pos) (some (.Name x px)) spos.line env = pure true)
    (hclos : closureFor scope env = pure cl) (hkind : scope.kind = .function)
    (hnames : ∀ y ∈ scope.names, y.2 = .local → scope.names.lookup y.1 = some .local) (hs : ∀ x, foldedSetIterable iter env x = pure x)
    (h : wpAny (model prog w) A (eval iter env) (fun xv s₁ => Stop (CompGo prog w A elt target iter ifs scope pos cl env (fun acc C => compPost (model prog w) A no (some (assign (.Name x px) env)) (fun _ s' => Q .next s') acc C) xv s₁)) no s) :
    wpAny (model prog w) A (exec (.Assign [.Name x px] (.ListComp elt [⟨target, iter, ifs, 0⟩] scope pos) spos) env) Q no s := by
  rw [exec_Assign_Name_used _ _ _ _ hsw]
  refine wpAny_bind (wpAny_standAt (wpAny_bind ?_))
  show wpAny _ A (do let _ ← comprehension (.ListComp elt [⟨target, iter, ifs, 0⟩] scope pos) scope env _ (newList []) false (eval iter env) (some (assign (.Name x px) env))) _ _ s
  exact wpAny_bind (wpAny_mono (wpAny_comprehension_free (use := some (assign (.Name x px) env)) (Q := fun _ s' => Q .next s') rfl hs hclos hkind hnames
    (wpAny_mono h (fun xv s₁ h₁ => h₁) fun _ _ e => e)) (fun _ s' hq => wpAny_pure (wpAny_pure hq)) fun _ _ e => e)

/-- the end of a comprehension whose list is used as a value -/
theorem comp_post {g : Heap} {L C D : Addr} {m m' : Str → Option Value} {oL : Obj} {n : Nat} {ys : List Value} {news' : List (Addr × Obj)} {h' : Heap} {tk : Tok} {Q : Value → Shared → Prop}
    (F0 : Fr g L s.heap m) (hLD : L < D) (hDC : D < C) (hLC : L < C) (aL : AllNe L news') (aD : AllNe D news') (F : Fr g C h' m') (N : News g C h' ((L, oL) :: (D, listOf ys.toArray n) :: news')) (hL : h'.Ns L m)
    (hq : ∀ h'', Fr g L h'' m → News g L h'' ((D, listOf ys.toArray n) :: news') → AllNe D news' → L < D → Q (.ref D) { s with heap := h'', toks := tk }) :
    compPost (model prog w) A no none Q (.ref D) C (.ok .next) { s with heap := h', toks := tk } := by
  refine ⟨m', F.ns, fun h'' hs'' => hq h'' ⟨hL.sameBut hs'' (Nat.ne_of_lt hLC), fun b o e => hs''.extBut b o (fun q => ?_) (F.keep b o e), F0.above⟩ (fun p hp => ?_) aD hLD⟩
  · have := F.above
    rw [q] at e
    exact absurd (Nat.lt_of_lt_of_le (Heap.lt_size e) this) (Nat.lt_irrefl _)
  · have hp' : p ∈ (L, oL) :: (D, listOf ys.toArray n) :: news' := .tail _ hp
    refine ⟨hs''.extBut _ _ (N p hp').2.1 (N p hp').1, ?_, (N p hp').2.2⟩
    rcases List.mem_cons.mp hp with rfl | hp
    · exact Nat.ne_of_gt hLD
    · exact allNe_mem aL p hp
end
section
variable {M : Model} {A : Around} {E : Value → Shared → Prop} {s : Shared} {h₀ : Heap} {C c : Addr} {m : Str → Option Value} {news : List (Addr × Obj)} {scope : Scope} {cl : List (Str × Addr)} {env : Env} {x : Str} {pos : Pos} {v : Value} {o : Obj} {K : Frag} {mg mb : Str → Option Value} {p : Program} {loose : List Str}
theorem nameC_L {Q : Value → Shared → Prop} (F : Fr h₀ C s.heap m) (hv : m x = some v) (h : Q v s)
    (hk : (compEnvC scope cl C env).scope.kind = .function) (hx : (compEnvC scope cl C env).kindOf x = some .local) (hd : (x == ("__debug__" : Str)) = false) :
    wpAny M A (eval (.Name x pos) (compEnvC scope cl C env)) Q E s := wpAny_Name (wpAny_loadName_local hk hx F.ns hv h) hd
theorem nameC_C {Q : Value → Shared → Prop} (N : News h₀ C s.heap news) (hc : cl.lookup x = some c) (hm : (c, o) ∈ news) (hd : o.data = .cell (some v)) (h : Q v s)
    (hk : (compEnvC scope cl C env).scope.kind = .function) (hx : (compEnvC scope cl C env).kindOf x = some .cell) (hb : (x == ("__debug__" : Str)) = false) :
    wpAny M A (eval (.Name x pos) (compEnvC scope cl C env)) Q E s := wpAny_Name (wpAny_loadName_cell hk hx hc ⟨o, N.get hm, hd⟩ h) hb
theorem nameC_G {Q : Value → Shared → Prop} (F : Fr h₀ C s.heap m) (X : K.In h₀) (T : TopRead p loose mg mb h₀) (e : nsIn K mainGlobals x = some (some v)) (h : Q v s)
    (hg : (compEnvC scope cl C env).globals = mainGlobals) (hk : (compEnvC scope cl C env).scope.kind = .function) (hx : (compEnvC scope cl C env).kindOf x = some .globalImplicit) (hd : (x == ("__debug__" : Str)) = false) :
    wpAny M A (eval (.Name x pos) (compEnvC scope cl C env)) Q E s :=
  Name_function_global hk hx (loadGlobal_global (env := compEnvC scope cl C env) (by rw [hg]; exact T.g.keeps F.keep) (mg_of X T.g e) h) hd
theorem storeC_L {Q : Unit → Shared → Prop} (F : Fr h₀ C s.heap m) (N : News h₀ C s.heap news)
    (h : ∀ h', Fr h₀ C h' (fun y => if y = x then some v else m y) → News h₀ C h' news → Q () { s with heap := h', toks := s.toks + 1 })
    (hk : (compEnvC scope cl C env).scope.kind = .function) (hx : (compEnvC scope cl C env).kindOf x = some .local) : wpAny M A (storeName (compEnvC scope cl C env) x v) Q E s :=
  wpAny_storeName_local hx F.ns (fun h' hn hs => h h' (F.set hn hs) (N.set hs)) (by rw [hk]; rfl)
end
end TM5
end Mine

namespace Mine
section TN1
open PySem PySem.W PyProof.Rows PySem.Calls
set_option maxRecDepth 100000
set_option maxHeartbeats 400000
/-- a path that normpath takes, and what it makes of it -/
structure NpOk (p : Str) : Prop where
  hp : p.length ≤ 1000
  hp0 : (p.length : Int) ≠ 0
  c1 : (Txt.slice p none (some 1) != Str.ofString "/") = false
  c2 : (Txt.slice p (some 1) (some 2) != Str.ofString "/") = true
  hcs : (Txt.split (Txt.slice p (some 1) none) (Str.ofString "/")).length ≤ 100
def npOf (p : Str) : Str := Str.ofString "/" ++ Txt.join (Str.ofString "/") ((Txt.split (Txt.slice p (some 1) none) (Str.ofString "/")).foldl nstep [])
local macro_rules | `(tactic| walk_at "call ref") => `(tactic| (k_here; refine Stop.intro ?_))
local macro_rules | `(tactic| walk_at "eval Name") => `(tactic| (k_here; (with_reducible show wpAny _ _ (eval (PySem.Expr.Name _ _) (compEnvC _ _ _ _)) _ _ _); k_dflt (first
  | (refine' nameC_L ?F ?v ?_ ?a ?b ?d; (case F => k_asm); (case a => first | rfl | solve_by_elim); (case b => first | rfl | solve_by_elim); (case d => decide); (case v => rfl); k_whole)
  | (refine' nameC_G ?F ?X ?T ?e ?_ ?g ?a ?b ?d; (case F => k_asm); (case X => k_asm); (case T => k_asm); (case g => first | rfl | solve_by_elim); (case a => first | rfl | solve_by_elim); (case b => first | rfl | solve_by_elim); (case d => decide); (case e => k_is); k_whole))))
local macro_rules | `(tactic| walk_at "storeName") => `(tactic| (k_here; k_dflt (refine' storeC_L ?F ?N ?_ ?a ?b; (case F => k_asm); (case N => k_asm); (case a => first | rfl | solve_by_elim); (case b => first | rfl | solve_by_elim); k_whole; intro h' F' N'; (try k_sweep))))
section
variable {w : World} {b₀ : Heap} {mean : ExcName → Option Value} {mg mb : Str → Option Value} {A : Around} {s : Shared}
set_option pp.deepTerms false
set_option pp.deepTerms.threshold 6
theorem np_go {g : Heap} {L dl : Addr} {m : Str → Option Value} {news : List (Addr × Obj)} {ds : List (Str × Tok)} {iter : PySem.Expr} {scope : Scope} {pos p1 p2 p3 p4 : Pos} {cl : List (Str × Addr)} {env : Env} {RR : Value → Addr → Result → Shared → Prop}
    (W : Wd w b₀ mean mg mb) (gst : b₀.StaysIn g) (H : Room A 14) (KG : (KK w.params).In g) (TG : TopF mean mg mb g) (F : Fr g L s.heap m) (N : News g L s.heap news) (gd : g.IsList dl (sls ds)) (hz : ds.length ≤ 50) (hok : ∀ d ∈ ds, NpOk d.1)
    (hcell : ∀ y ∈ scope.names, y.2 ≠ .cell) (hkind : scope.kind = .function)
    (hg : ∀ C, (compEnvC scope cl C env).globals = mainGlobals) (hk : ∀ C, (compEnvC scope cl C env).scope.kind = .function) (hxd : ∀ C, (compEnvC scope cl C env).kindOf (Str.ofString "d") = some .local) (hxn : ∀ C, (compEnvC scope cl C env).kindOf (Str.ofString "normpath_path") = some .globalImplicit)
    (done : ∀ C D oL n xs m' h' tk, L < D → D < C → L < C → h'.get? L = some oL → AllNe L news → AllNe D news → xs.map (·.1) = ds.map (fun d => npOf d.1) → Fr g C h' m' → News g C h' ((L, oL) :: (D, listOf (sls xs) n) :: news) → h'.Ns L m → RR (.ref D) C (.ok .next) { s with heap := h', toks := tk }) :
    CompGo PySem.Challenge.rw_ik0148_01.row.prog w A (.Call (.Name (Str.ofString "normpath_path") p1) [.Name (Str.ofString "d") p2] [] p3) (.Name (Str.ofString "d") p4) iter [] scope pos cl env RR (.ref dl) s := by
  have KX := KG
  clear KG
  revert KX
  have key : ∀ {Q : Value → Shared → Prop} {h : Heap} {tk : Tok} {C : Addr} {mC : Str → Option Value} {ledger : List (Addr × Obj)} {d : Str × Tok}, (KK w.params).In g → d ∈ ds → Fr g C h mC → News g C h ledger → mC (Str.ofString "d") = some (.str d.1 d.2) →
      (∀ h' tk' t', Fr g C h' mC → News g C h' ledger → Q (.str (npOf d.1) t') { s with heap := h', toks := tk' }) →
      wpAny (model PySem.Challenge.rw_ik0148_01.row.prog w) A (eval (.Call (.Name (Str.ofString "normpath_path") p1) [.Name (Str.ofString "d") p2] [] p3) (compEnvC scope cl C env)) Q no { s with heap := h, toks := tk } := by
    intro Q h tk C mC ledger d KX hd' F4 N4 hm ret
    revert KX
    k_fill
    intro KX
    have e1 : nsIn (KK w.params) mainGlobals (Str.ofString "normpath_path") = some (some (.ref 143)) := by k_is
    have e2 : keepIn (KK w.params) (.ref 143) = true := by k_is
    refine Call_Name rfl (nameC_G F4 KX (topRead_of TG) e1 ?_ (hg C) (hk C) (hxn C) (by decide))
    refine callWith_K KX e2 (Calls.spliced_cons (nameC_L F4 hm (Calls.spliced_nil ⟨KX.keeps F4.keep, ?_⟩) (hk C) (hxd C) (by decide)))
    have o := hok d hd'
    exact normpath143_ct W (fun b ob e => F4.keep _ _ (gst _ _ e)) H o.hp o.hp0 o.c1 o.c2 rfl o.hcs fun h' tk' t' k => ret h' tk' t' (fr_stay F4 k) (news_stay N4 k)
  intro KX
  have I0 : ∃ xs : List (Str × Tok), ([] : List Value) = strValues xs ∧ xs.map (·.1) = (ds.take 0).map fun d => npOf d.1 := ⟨[], by simp [strValues], by simp⟩
  refine comp_block H.hnd (fun i ys news' => news' = news ∧ ∃ xs : List (Str × Tok), ys = strValues xs ∧ xs.map (·.1) = (ds.take i).map fun d => npOf d.1) F N (F.lst gd) (by rw [sls_size]; omega) hcell hkind ⟨rfl, I0⟩ ?_ ?_ ?_
  · intro C i m' ys news' h' _ F' _; exact F'.lst gd
  · intro C it D oL oi n i ys v m' news' h' tk lt1 lt2 lt3 lt4 a1 a2 a3 hv hI F4 N4
    obtain ⟨rfl, xs, rfl, hxs⟩ := hI
    have hi : i < ds.length := by
      have := (Array.getElem?_eq_some_iff.mp hv).1
      rwa [sls_size] at this
    have hve : v = .str ds[i].1 ds[i].2 := by
      simp only [strValues, List.getElem?_toArray, List.getElem?_map, List.getElem?_eq_getElem hi, Option.map_some, Option.some.injEq] at hv
      exact hv.symm
    subst hve
    refine wpAny_assign_Name (storeC_L F4 N4 (fun h5 F5 N5 => ?_) (hk C) (hxd C))
    refine wpAny_tests_nil ?_
    rw [if_pos rfl]
    refine key KX (List.getElem_mem hi) F5 N5 (by simp) fun h6 tk6 t6 F6 N6 => Stop.here ⟨h6, tk6, _, _, rfl, F6, fun p hp => N6 p (.tail _ (.tail _ (.tail _ hp))), (N6 _ (.head _)).1, (N6 _ (.tail _ (.head _))).1, (N6 _ (.tail _ (.tail _ (.head _)))).1, a1, a2, a3, rfl, xs ++ [(npOf ds[i].1, t6)], ?_, ?_⟩
    · simp [strValues]
    · rw [List.map_append, hxs, List.take_succ_eq_append_getElem hi, List.map_append]; simp only [List.map_cons, List.map_nil]
  · intro C D oL n ys m' news' h' tk l1 l2 l3 eL a1 a3 hI F4 N4 nsL
    obtain ⟨rfl, xs, rfl, hxs⟩ := hI
    rw [sls_size, List.take_length] at hxs
    exact done C D oL n xs m' h' tk l1 l2 l3 eL a1 a3 hxs F4 N4 nsL
end
end TN1
end Mine

namespace Mine
section TM6
open PySem PySem.W PyProof.Rows PySem.Calls
set_option maxRecDepth 100000
set_option maxHeartbeats 1000000
section
variable {w : World} {b₀ : Heap} {mean : ExcName → Option Value} {mg mb : Str → Option Value} {A : Around} {s : Shared}
theorem Room.code {M : Model} {A : Around} {n : Nat} {c : Code} {R : Result → Shared → Prop} {s : Shared} (H : Room A n) (h : codeAny M (AC n) c R s) : codeAny M A c R s := fun Γ p hc hΓ => by
  obtain ⟨h1, h2, h3, h4, h5⟩ := hΓ
  refine h Γ p hc ⟨h1.trans H.hnd, ?_, ?_, ?_, ?_⟩
  · have := H.dep; show _ ≤ 900 - n; omega
  · intro l hl; cases hl
  · intro l hl; cases hl
  · have := H.uni; show _ ≤ 9000 - 20 * n; omega
theorem enter_code {name qual : Str} {params : Arguments} {body : List Stmt} {scope : Scope} {dV kV doc pm cdv ct oc : Value} {an od : Option Addr} {osl : Array (Option Value)} {f : Addr} {args : List Value} {kw : List (Str × Value)} {binds : List (Str × Value)} {R : Result → Shared → Prop}
    (X : List Addr) (W : Wd w b₀ mean mg mb) (st : b₀.StaysIn s.heap) (hX : ∀ x ∈ X, b₀.get? x = none)
    (ho : (KK w.params).lookup f = some ⟨oc, od, .func (fnOf name qual params body scope dV kV doc pm an cdv ct), osl⟩) (hcd : codeIn (KK w.params) cdv qual = true) (hroom : A.depth < recursionLimit)
    (hbind : BindsTo s (fnOf name qual params body scope dV kV doc pm an cdv ct) ⟨args, kw⟩ binds) (hloc : ∀ y ∈ binds, scope.names.lookup y.1 = some .local)
    (h : ∀ g L h₁, g = hideAll s.heap X → L = s.heap.objs.size → Fr g L h₁ (fun y => binds.reverse.lookup y) → (∀ b o, s.heap.get? b = some o → h₁.get? b = some o) → (KK w.params).In g → TopF mean mg mb g →
      wpAny (model PySem.Challenge.rw_ik0148_01.row.prog w) (A.deeper (envOf qual scope L f cdv)) (execs body (envOf qual scope L f cdv))
        (fun fl s' => R (.ok (.ret (match fl with | .ret v => v | _ => .none))) s') (fun _ _ => False) { s with heap := h₁, toks := s.toks + binds.length })
    (hcell : ∀ x ∈ scope.names, x.2 ≠ .cell) (hco : scope.isCoroutine = false) (hgen : scope.isGenerator = false) (hk : scope.kind = .function) :
    codeAny (model PySem.Challenge.rw_ik0148_01.row.prog w) A (.call (.ref f) ⟨args, kw⟩) R s := by
  have hg : b₀.StaysIn (hideAll s.heap X) := fun b o e => hideAll_get X (st b o e) fun hm => by rw [hX b hm] at e; cases e
  refine codeAny_call_def (fd := fnOf name qual params body scope dV kV doc pm an cdv ct) (body := body) (binds := binds) hroom (W.K.keeps st _ _ ho) rfl (W.T.nolimit.keeps st) (codeRec_of (W.K.keeps st) hcd) rfl hbind hcell hloc (fun h₁ hns hk₁ => ?_) hco hgen hk
  refine wpAny_mono (h _ s.heap.objs.size h₁ rfl rfl ⟨hns, fun b o e => hk₁ b o (of_hideAll X e), Nat.le_of_eq (hideAll_size _ _)⟩ hk₁ (W.K.keeps hg) (W.T.keeps hg)) (fun fl s' hl => hl) fun _ _ y => y.elim
end
theorem truthy_sls {prog : Program} {w : World} {A : Around} {E : Value → Shared → Prop} {s : Shared} {l : Addr} {xs : List (Str × Tok)} {Q : Bool → Shared → Prop} (hl : s.heap.IsList l (sls xs)) (hz : xs.length < 1000) (h : ∀ tk, Q (!xs.isEmpty) { s with toks := tk }) :
    wpAny (model prog w) A (truthy (.ref l)) Q E s := by
  refine wpAny_truthy_list hl (by rw [sls_size]; omega) ?_
  have e : (!xs.isEmpty) = !(sls xs).isEmpty := by cases xs <;> simp [strValues]
  rw [e] at h
  exact h _
theorem call_set_N {prog : Program} {w : World} {A : Around} {E : Value → Shared → Prop} {s : Shared} {g : Heap} {L l : Addr} {m : Str → Option Value} {news : List (Addr × Obj)} {xs : List (Str × Tok)} {Q : Value → Shared → Prop}
    (hh : A.handled = none) (F : Fr g L s.heap m) (N : News g L s.heap news) (hl : s.heap.IsList l (sls xs)) (hz : xs.length ≤ 50) (hnd : (xs.map (·.1)).Nodup)
    (h : ∀ h' tk S o, Fr g L h' m → News g L h' ((S, o) :: news) → SetIs prog w (ledOf w) o xs → (∀ p ∈ news, p.1 < S) → Q (.ref S) { s with heap := h', toks := tk }) :
    wpAny (model prog w) A (call (.type "set") [.ref l]) Q E s := by
  refine call_set hh hl hz hnd fun h' tk o ho hS hk => ?_
  have hLlt : L < s.heap.objs.size := F.ns.lt
  refine h h' tk _ o ⟨F.ns.at' fun o' e => hk L o' hLlt e, fun b o' e => hk b o' (Heap.lt_size (F.keep b o' e)) (F.keep b o' e), F.above⟩ (fun p hp => ?_) hS (fun p hp => Heap.lt_size (N p hp).1)
  rcases List.mem_cons.mp hp with rfl | hp
  · refine ⟨ho, Nat.ne_of_gt hLlt, ?_⟩
    cases hq : g.get? s.heap.objs.size with
    | none => rfl
    | some o' => exact absurd (Heap.lt_size (F.keep _ _ hq)) (Nat.lt_irrefl _)
  · exact ⟨hk _ _ (Heap.lt_size (N p hp).1) (N p hp).1, (N p hp).2.1, (N p hp).2.2⟩

local macro_rules | `(tactic| walk_at "my side") => `(tactic| ((case ho => k_is); (case hcd => k_is); (case hroom => decide); (case hcell => decide); (case hco => rfl); (case hgen => rfl); (case hk => rfl)))
local macro_rules | `(tactic| walk_at "call ref") => `(tactic| (k_here; refine Stop.intro ?_))
/-- what an _Ignore holds -/
abbrev ignEnt (w : World) (S D G : Addr) (t1 t2 t3 : Tok) : List DictEntry :=
  [⟨PyData.keyHash w.params (Str.ofString "_mods"), .str (Str.ofString "_mods") t1, .ref S⟩, ⟨PyData.keyHash w.params (Str.ofString "_dirs"), .str (Str.ofString "_dirs") t2, .ref D⟩, ⟨PyData.keyHash w.params (Str.ofString "_ignore"), .str (Str.ofString "_ignore") t3, .ref G⟩]
abbrev ignL (w : World) (x dx S D G : Addr) (oS oG : Obj) (dss : List (Str × Tok)) (k n : Nat) (t1 t2 t3 : Tok) : List (Addr × Obj) :=
  [(x, instObj 166 dx), (dx, dictOf (ignEnt w S D G t1 t2 t3) k), (S, oS), (D, listOf (sls dss) n), (G, oG)]
local macro_rules | `(tactic| walk_at "eval ListComp") => `(tactic| (k_here; refine toks_gen ?_; intro tk'; (try dsimp only); refine Stop.intro ?_))
local macro_rules | `(tactic| walk_at "eval Name") => `(tactic| (k_here; (with_reducible show wpAny _ _ (eval (PySem.Expr.Name _ _) (compEnvC _ _ _ _)) _ _ _); k_dflt (first
  | (refine' nameC_L ?F ?v ?_ ?a ?b ?d; (case F => k_asm); (case a => rfl); (case b => rfl); (case d => decide); (case v => rfl); k_whole)
  | (refine' nameC_G ?F ?X ?T ?e ?_ ?g ?a ?b ?d; (case F => k_asm); (case X => k_asm); (case T => k_asm); (case g => rfl); (case a => rfl); (case b => rfl); (case d => decide); (case e => k_is); k_whole))))
local macro_rules | `(tactic| walk_at "storeName") => `(tactic| (k_here; k_dflt (refine' storeC_L ?F ?N ?_ ?a ?b; (case F => k_asm); (case N => k_asm); (case a => rfl); (case b => rfl); k_whole; intro h' F' N'; (try k_sweep))))
section
variable {w : World} {b₀ : Heap} {mean : ExcName → Option Value} {mg mb : Str → Option Value} {A : Around} {E : Value → Shared → Prop} {s : Shared}
set_option pp.deepTerms false
set_option pp.deepTerms.threshold 6
theorem init_code {x dx ml dl : Addr} {ms ds : List (Str × Tok)} {R : Result → Shared → Prop} (W : Wd w b₀ mean mg mb) (stb : b₀.StaysIn s.heap) (H : Room A 18)
    (hx : s.heap.get? x = some (instObj 166 dx)) (hdx : s.heap.get? dx = some (dictOf [] 0)) (nx : b₀.get? x = none) (ndx : b₀.get? dx = none) (hlt : dx < x)
    (hml : s.heap.IsList ml (sls ms)) (hdl : s.heap.IsList dl (sls ds)) (m1 : ml ≠ x) (m2 : ml ≠ dx) (d1 : dl ≠ x) (d2 : dl ≠ dx) (hms : ms.length ≤ 50) (hnd : (ms.map (·.1)).Nodup) (hds : ds.length ≤ 50) (hok : ∀ d ∈ ds, NpOk d.1)
    (ret : ∀ h' tk' S D G oS oG n k t1 t2 t3 dss, Kept [x, dx] s.heap h' → (∀ p ∈ ignL w x dx S D G oS oG dss k n t1 t2 t3, h'.get? p.1 = some p.2) → s.heap.get? S = none → s.heap.get? D = none → s.heap.get? G = none → @Ne Nat S D → @Ne Nat S G → @Ne Nat D G →
      (∃ led, SetIs PySem.Challenge.rw_ik0148_01.row.prog w led oS ms ∧ (ms ≠ [] → led = ledOf w)) → dss.map (·.1) = ds.map (fun d => npOf d.1) → (G == sysModules) = false →
      (∃ t, oG.IsDictOf (PySem.strKind PySem.Challenge.rw_ik0148_01.row.prog w) [(Str.ofString "<string>", .int 1 t)]) → R (.ok (.ret .none)) { s with heap := h', toks := tk' }) :
    codeAny (model PySem.Challenge.rw_ik0148_01.row.prog w) A (.call (.ref 156) ⟨[.ref x, .ref ml, .ref dl], []⟩) R s := by
  refine H.code ?_
  have KX := W.K
  revert KX
  k_fill
  intro KX
  refine' enter_code (binds := [(Str.ofString "self", .ref x), (Str.ofString "modules", .ref ml), (Str.ofString "dirs", .ref dl)]) [x, dx] W stb ?_ ?ho ?hcd ?hroom ?hbind ?hloc ?_ ?hcell ?hco ?hgen ?hk
  walk_at "my side"
  case hbind => exact binds_K (KX.keeps stb) rfl (by k_is) rfl rfl rfl
  case hloc => exact locs rfl
  · intro y hy
    rcases List.mem_cons.mp hy with rfl | hy
    · exact nx
    · rw [List.mem_singleton.mp hy]; exact ndx
  intro g L h₁ hg hL F hk₁ KG TG
  have gst : b₀.StaysIn g := fun b o e => by
    rw [hg]
    refine hideAll_get _ (stb b o e) fun hm => ?_
    rcases List.mem_cons.mp hm with rfl | hm
    · rw [nx] at e; cases e
    · rw [List.mem_singleton.mp hm, ndx] at e; cases e
  have gx : g.get? x = none := by rw [hg]; exact hideAll_none _ (.head _)
  have gdx : g.get? dx = none := by rw [hg]; exact hideAll_none _ (.tail _ (.head _))
  have lx : x < L := by rw [hL]; exact Heap.lt_size hx
  have ldx : dx < L := by rw [hL]; exact Heap.lt_size hdx
  have gm : g.IsList ml (sls ms) := by
    obtain ⟨o, ho, r⟩ := hml
    exact ⟨o, by rw [hg]; exact hideAll_get _ ho (by simp [m1, m2]), r⟩
  have gd : g.IsList dl (sls ds) := by
    obtain ⟨o, ho, r⟩ := hdl
    exact ⟨o, by rw [hg]; exact hideAll_get _ ho (by simp [d1, d2]), r⟩
  have back : ∀ b, @Ne Nat b x → @Ne Nat b dx → g.get? b = none → s.heap.get? b = none := fun b n1 n2 e => by
    cases q : s.heap.get? b with
    | none => rfl
    | some o =>
      rw [hg, hideAll_get _ q (by simp only [List.mem_cons, List.not_mem_nil, or_false, not_or]; exact ⟨n1, n2⟩)] at e
      cases e
  have N : News g L h₁ [(x, instObj 166 dx), (dx, dictOf [] 0)] := by
    intro p hp
    rcases List.mem_cons.mp hp with rfl | hp
    · exact ⟨hk₁ _ _ hx, Nat.ne_of_lt lx, gx⟩
    · rw [List.mem_singleton.mp hp]
      exact ⟨hk₁ _ _ hdx, Nat.ne_of_lt ldx, gdx⟩
  replace lx := ltN lx
  replace ldx := ltN ldx
  replace hlt := ltN hlt
  clear KX
  have tm : ∀ {A : Around} {E : Value → Shared → Prop} {s : Shared} {m : Str → Option Value} {Q : Bool → Shared → Prop}, Fr g L s.heap m → (∀ tk, Q (!ms.isEmpty) { s with toks := tk }) → wpAny (model PySem.Challenge.rw_ik0148_01.row.prog w) A (truthy (.ref ml)) Q E s := fun F h => truthy_sls (F.lst gm) (by omega) h
  have td : ∀ {A : Around} {E : Value → Shared → Prop} {s : Shared} {m : Str → Option Value} {Q : Bool → Shared → Prop}, Fr g L s.heap m → (∀ tk, Q (!ds.isEmpty) { s with toks := tk }) → wpAny (model PySem.Challenge.rw_ik0148_01.row.prog w) A (truthy (.ref dl)) Q E s := fun F h => truthy_sls (F.lst gd) (by omega) h
  k_with "truthy ref" => (first | (refine tm (by k_asm) ?_; intro tk') | (refine td (by k_asm) ?_; intro tk'))
  k_with "call type:set" => (refine call_set_N rfl (by k_asm) (by k_asm) (Fr.lst (by k_asm) gm) (by omega) hnd ?_; intro h' tk' S' o' F' N' hS' l1; (try k_lt l1))
  cases hme : ms.isEmpty <;> cases hde : ds.isEmpty <;> rw [hme] at tm <;> rw [hde] at td
  all_goals k_steps
  all_goals try (
    refine Stop.here (comp_eval (cl := []) (by rfl) (by rfl) (by decide) (by intro _; rfl) ?_)
    k_steps)
  all_goals try (
    rename (Fr _ _ _ _) => F3
    rename (News _ _ _ _) => N3
    refine Stop.here (np_go W gst ⟨rfl, Nat.le_of_ble_eq_true rfl, Nat.le_of_ble_eq_true rfl⟩ KG TG F3 N3 gd hds hok (by decide) rfl (fun _ => rfl) (fun _ => rfl) (fun _ => rfl) (fun _ => rfl) ?_)
    intro C D oL n xs m' h' tk lt1 lt2 lt3 gL a1 a3 hxs F4 N4 nsL
    refine comp_post F3 lt1 lt2 lt3 a1 a3 F4 N4 nsL fun h'' F5 N5 aD lD => ?_
    clear F3 N3 F4 N4
    simp only [AllNe] at aD
    k_steps)
  all_goals (
    rename (Fr _ _ _ _) => F3
    rename (News _ _ _ _) => N3
    rename (Obj.IsDictOf _ _ _) => hD
    rename ((_ == sysModules) = false) => hlo
    dsimp only at N3
    first
    | (refine ret _ _ _ _ _ _ _ _ _ _ _ _ xs (Kept.hide fun b o e => F3.keep b o (hg ▸ e)) (List.forall_mem_cons.mpr ⟨(N3 _ (.tail _ (.tail _ (.tail _ (.head _))))).1, List.forall_mem_cons.mpr ⟨(N3 _ (.tail _ (.tail _ (.tail _ (.tail _ (.head _)))))).1, List.forall_mem_cons.mpr ⟨(N3 _ (.tail _ (.tail _ (.head _)))).1, List.forall_mem_cons.mpr ⟨(N3 _ (.tail _ (.head _))).1, List.forall_mem_cons.mpr ⟨(N3 _ (.head _)).1, List.forall_mem_nil _⟩⟩⟩⟩⟩) (back _ ?_ ?_ (N3 _ (.tail _ (.tail _ (.head _)))).2.2) (back _ ?_ ?_ (N3 _ (.tail _ (.head _))).2.2) (back _ ?_ ?_ (N3 _ (.head _)).2.2) ?_ ?_ ?_ ?_ ?_ hlo ⟨_, hD⟩)
    | (refine ret _ _ _ _ _ _ _ _ _ _ _ _ [] (Kept.hide fun b o e => F3.keep b o (hg ▸ e)) (List.forall_mem_cons.mpr ⟨(N3 _ (.tail _ (.tail _ (.tail _ (.head _))))).1, List.forall_mem_cons.mpr ⟨(N3 _ (.tail _ (.tail _ (.tail _ (.tail _ (.head _)))))).1, List.forall_mem_cons.mpr ⟨(N3 _ (.tail _ (.tail _ (.head _)))).1, List.forall_mem_cons.mpr ⟨(N3 _ (.tail _ (.head _))).1, List.forall_mem_cons.mpr ⟨(N3 _ (.head _)).1, List.forall_mem_nil _⟩⟩⟩⟩⟩) (back _ ?_ ?_ (N3 _ (.tail _ (.tail _ (.head _)))).2.2) (back _ ?_ ?_ (N3 _ (.tail _ (.head _))).2.2) (back _ ?_ ?_ (N3 _ (.head _)).2.2) ?_ ?_ ?_ ?_ ?_ hlo ⟨_, hD⟩))
  all_goals first
    | omega
    | exact hxs
    | (rw [List.isEmpty_iff.mp hde]; rfl)
    | exact ⟨_, by assumption, fun _ => rfl⟩
    | (have hme' := List.isEmpty_iff.mp hme; subst hme'; exact ⟨_, set_fresh, fun q => absurd rfl q⟩)
end
end TM6
end Mine

namespace Mine
section TM7
open PySem PySem.W PyProof.Rows PySem.Calls
set_option maxRecDepth 100000
set_option maxHeartbeats 400000
theorem Room.under {A : Around} {n : Nat} {c : Code} (H : Room A (n + 1)) (hw : c.weight = 1) (hu : c.cUnits = 1) : Room (A.under c) n := by
  obtain ⟨h1, h2, h3⟩ := H
  refine ⟨h1, ?_, ?_⟩
  · show A.depth + c.weight + n ≤ 900; omega
  · show A.units + c.cUnits + 20 * n ≤ 9000; omega
theorem room_type_call (ml dl : Addr) : (Code.builtin "type.__call__" ⟨[.ref 166, .ref ml, .ref dl], []⟩).weight = 1 ∧ (Code.builtin "type.__call__" ⟨[.ref 166, .ref ml, .ref dl], []⟩).cUnits = 1 := by
  constructor <;> kernel_rfl
section
variable {w : World} {b₀ : Heap} {mean : ExcName → Option Value} {mg mb : Str → Option Value} {A : Around} {s : Shared}
theorem ignore_K {g : Heap} {L ml dl : Addr} {m : Str → Option Value} {news : List (Addr × Obj)} {ms ds : List (Str × Tok)} {Q : Value → Shared → Prop} (W : Wd w b₀ mean mg mb) (gst : b₀.StaysIn g) (H : Room A 19) (KG : (KK w.params).In g)
    (F : Fr g L s.heap m) (N : News g L s.heap news) {n1 n2 : Nat} (hml : (ml, listOf (sls ms) n1) ∈ news) (hdl : (dl, listOf (sls ds) n2) ∈ news) (hms : ms.length ≤ 50) (hnd : (ms.map (·.1)).Nodup) (hds : ds.length ≤ 50) (hok : ∀ d ∈ ds, NpOk d.1)
    (ret : ∀ h' tk' x dx S D G oS oG n k t1 t2 t3 dss, Fr g L h' m → News g L h' (ignL w x dx S D G oS oG dss k n t1 t2 t3 ++ news) → (∀ p ∈ news, p.1 < dx) → (∀ p ∈ news, p.1 ≠ x ∧ p.1 ≠ S ∧ p.1 ≠ D ∧ p.1 ≠ G) → @LT.lt Nat _ dx x → @Ne Nat S D → @Ne Nat S G → @Ne Nat D G → (@Ne Nat x S ∧ @Ne Nat x D ∧ @Ne Nat x G ∧ @Ne Nat dx S ∧ @Ne Nat dx D ∧ @Ne Nat dx G) →
      (∃ led, SetIs PySem.Challenge.rw_ik0148_01.row.prog w led oS ms ∧ (ms ≠ [] → led = ledOf w)) → dss.map (·.1) = ds.map (fun d => npOf d.1) → (G == sysModules) = false →
      (∃ t, oG.IsDictOf (PySem.strKind PySem.Challenge.rw_ik0148_01.row.prog w) [(Str.ofString "<string>", .int 1 t)]) → Q (.ref x) { s with heap := h', toks := tk' }) :
    wpAny (model PySem.Challenge.rw_ik0148_01.row.prog w) A (call (.ref 166) [.ref ml, .ref dl]) Q no s := by
  have KX := KG
  revert KX
  k_fill
  intro KX
  refine' call_cls (fI := 156) F KX N ?h1 ?h2 ?h3 ?_
  case h1 => k_is
  case h2 => k_is
  case h3 => k_is
  intro x dx h₁ F1 N1 lt1 lt2
  have nx := N1 _ (.head _)
  have ndx := N1 _ (.tail _ (.head _))
  have gb : ∀ b, g.get? b = none → b₀.get? b = none := fun b e => by
    cases q : b₀.get? b with
    | none => rfl
    | some o => rw [gst _ _ q] at e; cases e
  have mlN : h₁.IsList ml (sls ms) := ⟨_, (N1 _ (.tail _ (.tail _ hml))).1, rfl, _, rfl⟩
  have dlN : h₁.IsList dl (sls ds) := ⟨_, (N1 _ (.tail _ (.tail _ hdl))).1, rfl, _, rfl⟩
  have m2 : ml < dx := lt1 _ hml
  have d2 : dl < dx := lt1 _ hdl
  refine init_code (s := { s with heap := h₁ }) W (fun b o e => F1.keep _ _ (gst _ _ e)) (H.under (room_type_call ml dl).1 (room_type_call ml dl).2) nx.1 ndx.1 (gb _ nx.2.2) (gb _ ndx.2.2) lt2 mlN dlN ?_ ?_ ?_ ?_ hms hnd hds hok ?_
  · exact Nat.ne_of_lt (Nat.lt_trans m2 lt2)
  · exact Nat.ne_of_lt m2
  · exact Nat.ne_of_lt (Nat.lt_trans d2 lt2)
  · exact Nat.ne_of_lt d2
  clear m2 d2
  intro h2 tk2 S D G oS oG n k t1 t2 t3 dss hk hall nS nD nG d1 d2 d3 hset hdss hG hdict
  have old : ∀ b o, b ≠ x → b ≠ dx → h₁.get? b = some o → h2.get? b = some o := fun b o q1 q2 e => hk b o (by simp only [List.mem_cons, List.not_mem_nil, or_false, not_or]; exact ⟨q1, q2⟩) e
  have fresh : ∀ b o c, h₁.get? b = some o → h₁.get? c = none → @Ne Nat b c := fun b o c e1 e2 q => by rw [q, e2] at e1; cases e1
  obtain ⟨oL, es, ep, hL, rL⟩ := F1.ns
  have Lx : L ≠ x := Ne.symm nx.2.1
  have Ldx : L ≠ dx := Ne.symm ndx.2.1
  have gn : ∀ b, h₁.get? b = none → g.get? b = none := fun b e => by
    cases q : g.get? b with
    | none => rfl
    | some o => rw [F1.keep _ _ q] at e; cases e
  have gx : ∀ b o, g.get? b = some o → b ≠ x ∧ b ≠ dx := fun b o e => ⟨fun q => (by rw [q, nx.2.2] at e; cases e), fun q => (by rw [q, ndx.2.2] at e; cases e)⟩
  refine ⟨rfl, ret h2 tk2 x dx S D G oS oG n k t1 t2 t3 dss ⟨⟨oL, es, ep, old _ _ Lx Ldx hL, rL⟩, fun b o e => old b o (gx b o e).1 (gx b o e).2 (F1.keep b o e), F1.above⟩ ?_ lt1 ?_ lt2 d1 d2 d3 ⟨fresh _ _ _ nx.1 nS, fresh _ _ _ nx.1 nD, fresh _ _ _ nx.1 nG, fresh _ _ _ ndx.1 nS, fresh _ _ _ ndx.1 nD, fresh _ _ _ ndx.1 nG⟩ hset hdss hG hdict⟩
  · intro p hp
    rcases List.mem_append.mp hp with hp | hp
    · refine ⟨hall p hp, ?_⟩
      rcases List.mem_cons.mp hp with rfl | hp
      · exact nx.2
      rcases List.mem_cons.mp hp with rfl | hp
      · exact ndx.2
      rcases List.mem_cons.mp hp with rfl | hp
      · exact ⟨Ne.symm (fresh _ _ _ hL nS), gn _ nS⟩
      rcases List.mem_cons.mp hp with rfl | hp
      · exact ⟨Ne.symm (fresh _ _ _ hL nD), gn _ nD⟩
      rw [List.mem_singleton.mp hp]
      exact ⟨Ne.symm (fresh _ _ _ hL nG), gn _ nG⟩
    · have z := N1 p (.tail _ (.tail _ hp))
      have l := ltN (lt1 p hp)
      have l2 := ltN lt2
      refine ⟨old _ _ ?_ ?_ z.1, z.2⟩
      · exact Nat.ne_of_lt (Nat.lt_trans l l2)
      · exact Nat.ne_of_lt l
  · intro p hp
    have z := N1 p (.tail _ (.tail _ hp))
    have l := ltN (lt1 p hp)
    have l2 := ltN lt2
    exact ⟨Nat.ne_of_lt (Nat.lt_trans l l2), fresh _ _ _ z.1 nS, fresh _ _ _ z.1 nD, fresh _ _ _ z.1 nG⟩
end
end TM7
end Mine

namespace Mine
section TM8
open PySem PySem.W PyProof.Rows PySem.Calls
set_option maxRecDepth 100000
set_option maxHeartbeats 1000000
theorem SetIs.setOf {prog : Program} {w : World} {led : Bool} {o : Obj} {vs : List (Str × Tok)} {h : Heap} {a : Addr} (e : h.get? a = some o) (hS : SetIs prog w led o vs) (hz : vs.length ≤ 100) :
    h.SetOf (PySem.strKind prog w) a (fun k => decide (k ∈ vs.map (·.1))) vs.length := by
  obtain ⟨hex, es, ep, t, hd, hf, hled, hpl, hel, hp⟩ := hS
  have hn : es.size = vs.length := SetIs.size hp
  refine ⟨o, es, ep, t, e, hex, hd, hel, fun k => ?_, by rw [hn]; unfold scanBound; omega, hf, hn⟩
  rw [decide_eq_true_eq]
  constructor
  · intro hk
    obtain ⟨⟨y, u⟩, hm, rfl⟩ := List.mem_map.mp hk
    have : Value.str y u ∈ es.toList.map (·.2) := hp.mem_iff.mpr (List.mem_map.mpr ⟨(y, u), hm, rfl⟩)
    obtain ⟨e2, he, e3⟩ := List.mem_map.mp this
    exact ⟨e2, he, by rw [e3]; exact str_is⟩
  · rintro ⟨e2, he, hk⟩
    exact is_str (hp.mem_iff.mp (List.mem_map.mpr ⟨e2, he, rfl⟩)) hk
theorem in_set {prog : Program} {w : World} {A : Around} {E : Value → Shared → Prop} {s : Shared} {led : Bool} {o : Obj} {vs : List (Str × Tok)} {a : Addr} {x : Str} {t : Tok} {Q : Value → Shared → Prop} (e : s.heap.get? a = some o) (hS : SetIs prog w led o vs) (hz : vs.length ≤ 100) (b : Bool) (hb : decide (x ∈ vs.map (·.1)) = b)
    (h : ∀ tk, Q (.bool b) { s with toks := tk }) : wpAny (model prog w) A (compareOp .In (.str x t) (.ref a)) Q E s :=
  wpAny_inSet_of str_is rfl (hS.setOf e hz) (by rw [hb]; exact h _)

local macro_rules | `(tactic| walk_at "my side") => `(tactic| ((case ho => k_is); (case hcd => k_is); (case hroom => decide); (case hcell => decide); (case hco => rfl); (case hgen => rfl); (case hk => rfl)))
local macro_rules | `(tactic| walk_at "call ref") => `(tactic| (k_here; refine Stop.intro ?_))
local macro_rules | `(tactic| walk_at "exec For Name Attribute cons nil") => `(tactic| (k_here; refine Stop.intro ?_))
local macro_rules | `(tactic| walk_at "pyIter ref") => `(tactic| (k_here; refine Stop.intro ?_))
local macro_rules | `(tactic| walk_at "setItem ref str") => `(tactic| (k_here; refine toks_gen ?_; intro tk'; (try dsimp only); refine Stop.intro ?_))
section
variable {w : World} {b₀ : Heap} {mean : ExcName → Option Value} {mg mb : Str → Option Value} {A : Around} {s : Shared}
set_option pp.deepTerms false
set_option pp.deepTerms.threshold 6
theorem names_fin {g h1 h' : Heap} {L : Addr} {m : Str → Option Value} {prog : Program} {x dx S D G : Addr} {oS oG : Obj} {dss : List (Str × Tok)} {k n : Nat} {t1 t2 t3 : Tok} {kvs' : List (Str × Value)} (F : Fr g L h1 m) (gG : g.get? G = none)
    (hN : ∀ p ∈ ignL w x dx S D G oS oG dss k n t1 t2 t3, h1.get? p.1 = some p.2) (hs : Heap.SameBut G h1 h') (hmm : h'.DictOf (PySem.strKind prog w) G kvs') (hSG : @Ne Nat S G) (hDG : @Ne Nat D G) (xG : @Ne Nat x G) (dG : @Ne Nat dx G) :
    ∃ oG', (∀ b o, g.get? b = some o → h'.get? b = some o) ∧ (∀ p ∈ ignL w x dx S D G oS oG' dss k n t1 t2 t3, h'.get? p.1 = some p.2) ∧ oG'.IsDictOf (PySem.strKind prog w) kvs' := by
  obtain ⟨oG', ho', hd'⟩ := Heap.dictOf_iff.mp hmm
  have up : ∀ b o, b ≠ G → h1.get? b = some o → h'.get? b = some o := fun b o nb e => hs.extBut b o nb e
  refine ⟨oG', fun b o e => up b o (fun q => by rw [q, gG] at e; cases e) (F.keep b o e), ?_, hd'⟩
  intro p hp
  simp only [ignL, List.mem_cons, List.not_mem_nil, or_false] at hp
  rcases hp with rfl | rfl | rfl | rfl | rfl
  · exact up _ _ xG (hN _ (.head _))
  · exact up _ _ dG (hN _ (.tail _ (.head _)))
  · exact up _ _ hSG (hN _ (.tail _ (.tail _ (.head _))))
  · exact up _ _ hDG (hN _ (.tail _ (.tail _ (.tail _ (.head _)))))
  · exact ho'
/-- what names answers of one that it has not met -/
def ans (ms ds : List Str) (fn md : Str) : Bool := decide (md ∈ ms) || (ms.any fun m => Txt.startswith md (m ++ Str.ofString ".")) || ds.any fun d => Txt.startswith fn (d ++ Str.ofString "/")

theorem names_ct {x dx S D G : Addr} {oS oG : Obj} {dss ms : List (Str × Tok)} {k n : Nat} {t1 t2 t3 u1 u2 : Tok} {led : Bool} {kvs : List (Str × Value)} {fn md : Str} {Q : Value → Shared → Prop} (W : Wd w b₀ mean mg mb) (stb : b₀.StaysIn s.heap) (H : Room A 4)
    (hall : ∀ p ∈ ignL w x dx S D G oS oG dss k n t1 t2 t3, s.heap.get? p.1 = some p.2 ∧ b₀.get? p.1 = none) (hxd : @Ne Nat dx x) (hSD : @Ne Nat S D) (hSG : @Ne Nat S G) (hDG : @Ne Nat D G) (hne : @Ne Nat x S ∧ @Ne Nat x D ∧ @Ne Nat x G ∧ @Ne Nat dx S ∧ @Ne Nat dx D ∧ @Ne Nat dx G)
    (hS : SetIs PySem.Challenge.rw_ik0148_01.row.prog w led oS ms) (hled : ms ≠ [] → led = ledOf w) (hG : oG.IsDictOf (PySem.strKind PySem.Challenge.rw_ik0148_01.row.prog w) kvs) (hlo : (G == sysModules) = false)
    (hms : ms.length ≤ 50) (hds : dss.length ≤ 50) (hkz : kvs.length ≤ 1000) (hm1 : ∀ m ∈ ms, m.1.length ≤ 1000) (hd1 : ∀ d ∈ dss, d.1.length ≤ 1000)
    (old : ∀ v, valueAt kvs md = some v → ∀ h' tk', s.heap.StaysIn h' → Q v { s with heap := h', toks := tk' })
    (new : valueAt kvs md = none → ∀ h' tk' dr oG' t t', Kept [x, dx, S, D, G] s.heap h' → (∀ p ∈ ignL w x dx S D G oS oG' dss k n t1 t2 t3, h'.get? p.1 = some p.2) →
      oG'.IsDictOf (PySem.strKind PySem.Challenge.rw_ik0148_01.row.prog w) (stored kvs md (.int (if ans (ms.map (·.1)) (dss.map (·.1)) fn md then 1 else 0) t)) → Q (.int (if ans (ms.map (·.1)) (dss.map (·.1)) fn md then 1 else 0) t') { s with heap := h', toks := tk', drawn := dr }) :
    wpAny (model PySem.Challenge.rw_ik0148_01.row.prog w) A (call (.ref 163) [.ref x, .str fn u1, .str md u2]) Q no s := by
  refine H.wp ?_
  have KX := W.K
  revert KX
  k_fill
  intro KX
  have hnX : ∀ y ∈ [x, dx, S, D, G], b₀.get? y = none := all5 (hall _ (.head _)).2 (hall _ (.tail _ (.head _))).2 (hall _ (.tail _ (.tail _ (.head _)))).2 (hall _ (.tail _ (.tail _ (.tail _ (.head _))))).2 (hall _ (.tail _ (.tail _ (.tail _ (.tail _ (.head _)))))).2
  refine' enter (binds := [(Str.ofString "self", .ref x), (Str.ofString "filename", .str fn u1), (Str.ofString "modulename", .str md u2)]) [x, dx, S, D, G] W stb hnX ?ho ?hcd ?hroom ?hbind ?hloc ?_ ?hcell ?hco ?hgen ?hk
  walk_at "my side"
  case hbind => exact BindsTo.of_eq rfl
  case hloc => exact locs rfl
  intro g L h₁ hg hL F hk₁ KG TG
  have N : News g L h₁ (ignL w x dx S D G oS oG dss k n t1 t2 t3) := by
    intro p hp
    refine ⟨hk₁ _ _ (hall p hp).1, Nat.ne_of_lt (hL ▸ Heap.lt_size (hall p hp).1), ?_⟩
    rw [hg]
    refine hideAll_none _ ?_
    simp only [ignL, List.mem_cons, List.not_mem_nil, or_false] at hp
    rcases hp with rfl | rfl | rfl | rfl | rfl <;> simp
  clear KX
  refine and6 hne fun xS xD xG dS dD dG => ?_
  have gG : g.get? G = none := (N _ (.tail _ (.tail _ (.tail _ (.tail _ (.head _)))))).2.2
  have kz : kvs.length ≤ sizeLine := by simp only [sizeLine]; omega
  cases hv : valueAt kvs md with
  | some v =>
    have hvs : (valueAt kvs md).isSome = true := by rw [hv]; rfl
    k_with "compareOp In str ref" => refine kda_in (knd := PySem.strKind _ _) (by k_asm) (by k_mem) hG hlo (strKind_is _ _ _ _) _ hvs ?_
    k_with "subscriptTail" => refine kda_item (knd := PySem.strKind _ _) (by k_asm) (by k_mem) hG (strKind_is _ _ _ _) hv ?_
    k_steps
    exact old _ hv _ _ hk₁
  | none =>
    have hvs : (valueAt kvs md).isSome = false := by rw [hv]; rfl
    have fin : ∀ {s₁ : Shared} {m : Str → Option Value} {t : Tok} {b : Bool} {A : Around} {P : Unit → Shared → Prop}, s₁.gens = s.gens → s₁.os = s.os → Fr g L s₁.heap m → (∀ p ∈ ignL w x dx S D G oS oG dss k n t1 t2 t3, s₁.heap.get? p.1 = some p.2) → b = ans (ms.map (·.1)) (dss.map (·.1)) fn md →
        (∀ h' tk', (∀ t' tk'', Q (.int (if b then 1 else 0) t') { s₁ with heap := h', toks := tk'' }) → P () { s₁ with heap := h', toks := tk' }) →
        wpAny (model PySem.Challenge.rw_ik0148_01.row.prog w) A (setItem (.ref G) (.str md u2) (.int (if b then 1 else 0) t)) P no s₁ := by
      intro s₁ m t b A P e1 e2 F1 hN hb hP
      refine wpAny_setItem_pairs (hsz := kz) (strKind_is _ _ _ _) (Heap.dictOf_iff.mpr ⟨oG, hN _ (.tail _ (.tail _ (.tail _ (.tail _ (.head _))))), hG⟩) fun h' hmm hs => ?_
      obtain ⟨oG', kp, al, hd'⟩ := names_fin (w := w) F1 gG hN hs hmm hSG hDG xG dG
      refine hP h' _ fun t' tk'' => ?_
      have := new hv h' tk'' s₁.drawn oG' t t' (Kept.hide fun b o e => kp b o (hg ▸ e)) al (hb ▸ hd')
      rw [← hb] at this
      obtain ⟨a1, a2, a3, a4, a5⟩ := s₁
      dsimp only at e1 e2
      subst e1; subst e2
      exact this
    cases hms' : decide (md ∈ ms.map (·.1)) with
    | true =>
      have ha : ans (ms.map (·.1)) (dss.map (·.1)) fn md = true := by unfold ans; rw [hms']; rfl
      k_with "compareOp In str ref" => (first
        | refine kda_in (knd := PySem.strKind _ _) (by k_asm) (by k_mem) hG hlo (strKind_is _ _ _ _) _ hvs ?_
        | (refine in_set (News.get (by k_asm) (by k_mem)) hS (by omega) _ hms' ?_; intro tk'))
      k_steps
      refine Stop.here (fin (b := true) rfl rfl F (fun p hp => (N p hp).1) ha.symm fun h' tk' hq => ?_)
      k_steps
      exact hq _ _
    | false =>
      k_with "compareOp In str ref" => (first
        | refine kda_in (knd := PySem.strKind _ _) (by k_asm) (by k_mem) hG hlo (strKind_is _ _ _ _) _ hvs ?_
        | (refine in_set (News.get (by k_asm) (by k_mem)) hS (by omega) _ hms' ?_; intro tk'))
      k_steps
      refine Stop.here (wpAny_For ?_ (by intro _; rfl))
      k_steps
      have pins : ∀ {h : Heap} {m : Str → Option Value}, Fr g L h m → m (Str.ofString "self") = some (.ref x) → m (Str.ofString "filename") = some (.str fn u1) → m (Str.ofString "modulename") = some (.str md u2) →
          Fr g L h (fun y => match [(Str.ofString "self", Value.ref x), (Str.ofString "filename", .str fn u1), (Str.ofString "modulename", .str md u2)].lookup y with | some v => some v | none => m y) := fun F1 e1 e2 e3 =>
        fr_pins F1 [(Str.ofString "self", .ref x), (Str.ofString "filename", .str fn u1), (Str.ofString "modulename", .str md u2)] (by simp only [List.forall_mem_cons]; exact ⟨e1, e2, e3, fun _ h => nomatch h⟩)
      refine Stop.here (iter_set rfl (fun ys i m' => (∀ j y t, j < i → ys[j]? = some (Value.str y t) → Txt.startswith md (y ++ Str.ofString ".") = false) ∧ m' (Str.ofString "self") = some (.ref x) ∧ m' (Str.ofString "filename") = some (.str fn u1) ∧ m' (Str.ofString "modulename") = some (.str md u2))
        F N (.tail _ (.tail _ (.head _))) hS hled (by omega) (fun ys _ => ⟨fun j y t hj => absurd hj (Nat.not_lt_zero j), rfl, rfl, rfl⟩) ?_ ?_)
      · rintro it oi ext ys i v m' h' tk dr hp hv2 ⟨hno, e1, e2, e3⟩ F1 N1 a1 a2
        obtain ⟨y, ty, rfl, hyz, hym⟩ : ∃ y t, v = .str y t ∧ y.length ≤ 1000 ∧ y ∈ ms.map (·.1) := by
          have hm : v ∈ strValues ms := hp.mem_iff.mp (List.mem_of_getElem? hv2)
          simp only [strValues, List.mem_map] at hm
          obtain ⟨⟨y, t⟩, hm, rfl⟩ := hm
          exact ⟨y, t, rfl, hm1 _ hm, List.mem_map.mpr ⟨_, hm, rfl⟩⟩
        have F2 := pins F1 e1 e2 e3
        have N2 : News g L h' ((it, oi) :: (x, instObj 166 dx) :: (dx, dictOf (ignEnt w S D G t1 t2 t3) k) :: (S, oS) :: (D, listOf (sls dss) n) :: (G, oG) :: ext) := N1
        clear F1 N1 N F
        k_steps
        · rename (Txt.startswith md _ = true) => hst
          rename (Fr _ _ _ _) => F3
          rename (News _ _ _ _) => N3
          have ha : ans (ms.map (·.1)) (dss.map (·.1)) fn md = true := by
            unfold ans
            rw [Bool.or_eq_true, Bool.or_eq_true]
            exact .inl (.inr (List.any_eq_true.mpr ⟨y, hym, hst⟩))
          refine Stop.here (fin (b := true) rfl rfl F3 (fun p hp => (N3 _ (.tail _ (List.mem_append_left ext hp))).1) ha.symm fun h' tk' hq => ?_)
          k_steps
          exact hq _ _
        · rename (Txt.startswith md _ = false) => hst
          rename (Fr _ _ _ _) => F3
          rename (News _ _ _ _) => N3
          refine Stop.here ⟨_, _, _, rfl, F3, N3, ⟨fun j y' t' hj hy => ?_, rfl, rfl, rfl⟩⟩
          rcases Nat.lt_succ_iff_lt_or_eq.mp hj with hj | rfl
          · exact hno j y' t' hj hy
          · rw [hv2] at hy; cases hy; exact hst
      · rintro ys m' h' tk dr hp ⟨hno, e1, e2, e3⟩ F1 N1
        have hmods : (ms.map (·.1)).any (fun m => Txt.startswith md (m ++ Str.ofString ".")) = false := by
          rw [List.any_eq_false]
          intro y hy
          obtain ⟨⟨y', t⟩, hm, rfl⟩ := List.mem_map.mp hy
          have : Value.str y' t ∈ ys := hp.mem_iff.mpr (List.mem_map.mpr ⟨(y', t), hm, rfl⟩)
          obtain ⟨j, hj⟩ := List.mem_iff_getElem?.mp this
          rw [hno j y' t (List.getElem?_eq_some_iff.mp hj).1 hj]
          exact Bool.false_ne_true
        have F2 := pins F1 e1 e2 e3
        clear F1 N F
        k_steps
        refine Stop.here (wpAny_For ?_ (by intro _; rfl))
        k_steps
        rename (Fr _ _ _ _) => F3
        rename (News _ _ _ _) => N3
        refine Stop.here (iter_list (vs := sls dss) rfl (fun i m' news' => news' = ignL w x dx S D G oS oG dss k n t1 t2 t3 ∧ (∀ j d, j < i → dss[j]? = some d → Txt.startswith fn (d.1 ++ Str.ofString "/") = false) ∧ m' (Str.ofString "self") = some (.ref x) ∧ m' (Str.ofString "filename") = some (.str fn u1) ∧ m' (Str.ofString "modulename") = some (.str md u2))
          F3 N3 ⟨_, (N3 _ (.tail _ (.tail _ (.tail _ (.head _))))).1, rfl, _, rfl⟩ ⟨rfl, fun j d hj => absurd hj (Nat.not_lt_zero j), rfl, rfl, rfl⟩ ?_ ?_ ?_)
        · rintro i m'' news' h'' ⟨rfl, _⟩ _ N4
          exact ⟨_, (N4 _ (.tail _ (.tail _ (.tail _ (.head _))))).1, rfl, _, rfl⟩
        · rintro it oi i v m'' news' h'' tk'' hit hni hv2 ⟨rfl, hno2, e4, e5, e6⟩ F4 N4
          have hi : i < dss.length := by
            have := (Array.getElem?_eq_some_iff.mp hv2).1
            rwa [sls_size] at this
          obtain ⟨y, ty, hy⟩ : ∃ y ty, dss[i]? = some (y, ty) := ⟨_, _, List.getElem?_eq_getElem hi⟩
          obtain rfl : v = .str y ty := by
            simp only [strValues, List.getElem?_toArray, List.getElem?_map, hy, Option.map_some, Option.some.injEq] at hv2
            exact hv2.symm
          have hyz : y.length ≤ 1000 := hd1 _ (List.mem_of_getElem? hy)
          have F5 := pins F4 e4 e5 e6
          clear F4 F3 N3
          k_steps
          · rename (Txt.startswith fn _ = true) => hst
            rename (Fr _ _ _ _) => F3
            rename (News _ _ _ _) => N3
            have ha : ans (ms.map (·.1)) (dss.map (·.1)) fn md = true := by
              unfold ans
              rw [Bool.or_eq_true]
              exact .inr (List.any_eq_true.mpr ⟨y, List.mem_map.mpr ⟨_, List.mem_of_getElem? hy, rfl⟩, hst⟩)
            refine Stop.here (fin (b := true) rfl rfl F3 (fun p hp => (N3 _ (.tail _ hp)).1) ha.symm fun h' tk' hq => ?_)
            k_steps
            exact hq _ _
          · rename (Txt.startswith fn _ = false) => hst
            rename (Fr _ _ _ _) => F3
            rename (News _ _ _ _) => N3
            refine Stop.here ⟨_, _, _, _, rfl, F3, N3, hni, rfl, fun j d hj hd => ?_, rfl, rfl, rfl⟩
            rcases Nat.lt_succ_iff_lt_or_eq.mp hj with hj | rfl
            · exact hno2 j d hj hd
            · rw [hy] at hd; cases hd; exact hst
        · rintro m'' news' h'' tk'' ⟨rfl, hno2, e4, e5, e6⟩ F4 N4
          rw [sls_size] at hno2
          have ha : ans (ms.map (·.1)) (dss.map (·.1)) fn md = false := by
            unfold ans
            rw [hms', hmods, Bool.false_or, Bool.false_or, List.any_eq_false]
            intro y hy
            obtain ⟨d, hd, rfl⟩ := List.mem_map.mp hy
            obtain ⟨j, hj⟩ := List.mem_iff_getElem?.mp hd
            rw [hno2 j d (List.getElem?_eq_some_iff.mp hj).1 hj]
            exact Bool.false_ne_true
          have F5 := pins F4 e4 e5 e6
          clear F4 F3 N3
          k_steps
          rename (Fr _ _ _ _) => F6
          rename (News _ _ _ _) => N6
          refine Stop.here (fin (b := false) rfl rfl F6 (fun p hp => (N6 _ hp).1) ha.symm fun h' tk' hq => ?_)
          k_steps
          exact hq _ _
end
end TM8
end Mine

namespace Mine
section TR1
open PySem PySem.W PyProof.Rows PySem.Calls
set_option maxRecDepth 100000
set_option maxHeartbeats 1000000
def pl4 : List Str := [Str.ofString "a", Str.ofString "b", Str.ofString "..", Str.ofString "."]
section
variable {prog : Program} {w : World} {A : Around} {E : Value → Shared → Prop} {s : Shared} {h₀ : Heap} {L D : Addr} {m : Str → Option Value} {news : List (Addr × Obj)} {xs : List (Str × Tok)} {n : Nat} {k : Int} {t : Tok}
theorem item_str {value slice : PySem.Expr} {Q : Value → Shared → Prop} (N : News h₀ L s.heap news) (hm : (D, listOf (sls xs) n) ∈ news) (h0 : 0 ≤ k) (h1 : k < xs.length) (hz : xs.length < 1000)
    (hs : subscripted slice false (.ref D) (.int k t) = operate [.ref D, .int k t] (getItem (.ref D) (.int k t))) (ys : List Str) (hy : xs.map (·.1) = ys) (h : ∀ u, Q (.str (ys.getD k.toNat (Str.ofString "")) u) s) :
    wpAny (model prog w) A (subscriptTail value slice (.ref D) (.int k t)) Q E s := by
  have hl : s.heap.IsList D (sls xs) := PySem.IsL.isList (n := n) (N _ hm).1
  have hk : k.toNat < xs.length := by omega
  refine tail_any hl.typeIs slot_list_getitem.lookup (wpAny_getItem_list hl h0 (by omega) (x := .str xs[k.toNat].1 xs[k.toNat].2) (by simp [strValues, hk]) ?_) hs
  have := h xs[k.toNat].2
  rw [← hy] at this
  simpa [hk] using this
end
/-- the path's pieces, as _law_file makes them -/
def pcs (v : Int) : List Str := (if (v.fdiv 1280).fmod 2 = 1 then [Str.ofString ""] else []) ++ [pl4.getD (v.fmod 4).toNat (Str.ofString ""), pl4.getD ((v.fdiv 4).fmod 4).toNat (Str.ofString "")]
theorem pick01 {x : Str} {t : Tok} {k : Int} (hk : k = 0 ∨ k = 1) : ∃ fr : List (Str × Tok), (slicePick [Value.str x t].toArray none (some k) none).toList = strValues fr ∧ fr.map (·.1) = if k = 1 then [x] else [] := by
  rcases hk with rfl | rfl
  · exact ⟨[], rfl, rfl⟩
  · exact ⟨[(x, t)], rfl, rfl⟩
theorem mod2 (v : Int) : v.fmod 2 = 0 ∨ v.fmod 2 = 1 := by
  have h1 := Int.fmod_nonneg_of_pos v (b := 2) (by decide)
  have h2 := Int.fmod_lt_of_pos v (b := 2) (by decide)
  omega
section
variable {prog : Program} {w : World} {A : Around} {E : Value → Shared → Prop} {s : Shared} {h₀ : Heap} {L a b : Addr} {m : Str → Option Value} {news : List (Addr × Obj)} {xs : List (Str × Tok)} {x : Str} {k : Int} {t : Tok}
theorem cat_pick {n n2 : Nat} {Q : Value → Shared → Prop} (F : Fr h₀ L s.heap m) (N : News h₀ L s.heap news) (ha : (a, ({ cls := .type "list", data := .seq (slicePick [Value.str x t].toArray none (some k) none) n } : Obj)) ∈ news) (hb : (b, listOf (sls xs) n2) ∈ news) (hk : k = 0 ∨ k = 1) (hz : xs.length ≤ 100)
    (h : ∀ D h' fr, fr.map (·.1) = (if k = 1 then [x] else []) → Fr h₀ L h' m → News h₀ L h' ((D, listOf (sls (fr ++ xs)) 0) :: news) → (∀ p ∈ news, p.1 < D) → Q (.ref D) { s with heap := h' }) : wpAny (model prog w) A (binaryOp .Add (.ref a) (.ref b)) Q E s := by
  obtain ⟨fr, hf, hf2⟩ := pick01 (x := x) (t := t) hk
  have hl : fr.length ≤ 1 := by
    have := congrArg List.length hf2
    rw [List.length_map] at this
    rw [this]; split <;> simp
  refine kmk_add_lit F N ⟨_, (N _ ha).1, rfl, _, rfl⟩ ⟨_, (N _ hb).1, rfl, _, rfl⟩ (zs := strValues (fr ++ xs)) ?_ (fun D h' F' N' l => h D h' fr hf2 F' N' l) ?_
  · rw [hf]; simp [strValues]
  · rw [hf]; simp only [strValues, List.length_map, sizeLine]; omega
end
local macro_rules | `(tactic| walk_at "binaryOp Add ref ref") => `(tactic| (k_here; k_dflt (refine cat_pick (xs := [(_, _), (_, _)]) (by k_asm) (by k_asm) (by k_mem) (by k_mem) (mod2 _) (by simp) ?_); intro D' h' fr' hfr' F' N' l1; (try k_lt l1)))
local macro_rules | `(tactic| walk_at "subscriptTail") => `(tactic| (k_here; (with_reducible show wpAny _ _ (subscriptTail _ _ (Value.ref _) (Value.int _ _)) _ _ _); k_dflt (refine item_str (xs := [(Str.ofString "a", _), (Str.ofString "b", _), (Str.ofString "..", _), (Str.ofString ".", _)]) (by k_asm) (by k_mem) (Int.fmod_nonneg_of_pos _ (by decide)) (Int.fmod_lt_of_pos _ (by decide)) (by simp) (by with_unfolding_all rfl) pl4 rfl ?_; intro tk')))
local macro_rules | `(tactic| walk_at "my side") => `(tactic| ((case ho => k_is); (case hcd => k_is); (case hroom => decide); (case hcell => decide); (case hco => rfl); (case hgen => rfl); (case hk => rfl)))
local macro_rules | `(tactic| walk_at "call ref") => `(tactic| (k_here; refine Stop.intro ?_))
section
variable {w : World} {b₀ : Heap} {mean : ExcName → Option Value} {mg mb : Str → Option Value} {A : Around} {s : Shared}
set_option pp.deepTerms false
set_option pp.deepTerms.threshold 6
theorem file_ct {v : Int} {t : Tok} {Q : Value → Shared → Prop} (W : Wd w b₀ mean mg mb) (stb : b₀.StaysIn s.heap) (H : Room A 2)
    (ret : ∀ h' tk' R P xs ta tb, s.heap.StaysIn h' → h'.get? R = some (listOf #[.int (-((v.fdiv 128).fmod 10)) ta, .ref P, .int ((v.fdiv 16).fmod 8) tb] 0) → h'.get? P = some (listOf (sls xs) 0) → s.heap.get? R = none → s.heap.get? P = none → @Ne Nat R P → xs.map (·.1) = pcs v → Q (.ref R) { s with heap := h', toks := tk' }) :
    wpAny (model PySem.Challenge.rw_ik0148_01.row.prog w) A (call (.ref 264) [.int v t]) Q no s := by
  refine H.wp ?_
  have KX := W.K
  revert KX
  k_fill
  intro KX
  refine' enter (binds := [(Str.ofString "x", .int v t)]) [] W stb (fun x hx => nomatch hx) ?ho ?hcd ?hroom ?hbind ?hloc ?_ ?hcell ?hco ?hgen ?hk
  walk_at "my side"
  case hbind => exact BindsTo.of_eq rfl
  case hloc => exact locs rfl
  intro g L h₁ hg hL F hk₁ KG TG
  have N : News g L h₁ [] := News.nil
  clear KX
  k_steps
  rename (News _ _ _ _) => N3
  rename (Fr _ _ _ _) => F3
  rename (List.map _ _ = ite _ _ _) => hfr
  exact ret _ _ _ _ _ _ _ (fun b o e => F3.keep b o (hg ▸ e)) (N3 _ (.head _)).1 (N3 _ (.tail _ (.head _))).1 (by have z := (N3 _ (.head _)).2.2; rw [hg] at z; exact z) (by have z := (N3 _ (.tail _ (.head _))).2.2; rw [hg] at z; exact z) (by omega) (by rw [List.map_append, hfr]; rfl)
end
end TR1
end Mine

namespace Mine
section TR2
open PySem PySem.W PyProof.Rows PySem.Calls
set_option maxRecDepth 100000
set_option maxHeartbeats 1000000
theorem strValues_snoc (st : List (Str × Tok)) (p : Str) (t : Tok) : strValues (st ++ [(p, t)]) = strValues st ++ [.str p t] := by simp [strValues]
/-- the steps of _law_place -/
def pstep (st : List Str) (p : Str) : List Str := if p = Str.ofString ".." then st.dropLast else if p = Str.ofString "." ∨ p = Str.ofString "" then st else st ++ [p]
def placeOf (ps : List Str) (name : Str) : Str := Str.ofString "/" ++ Txt.join (Str.ofString "/") (ps.foldl pstep (if ps.headD (Str.ofString "") = Str.ofString "" then [] else [Str.ofString "r"]) ++ [name])
theorem drop_pick (st : List (Str × Tok)) : (slicePick (sls st) none (some (-1)) none).toList = strValues st.dropLast := by
  have e : sliceBounds none (some (-1)) none (sls st).size = (((0 : Nat) : Int), (((sls st).size - 1 : Nat) : Int), 1) := by
    simp only [sliceBounds, Option.getD_none, show (1 : Int) > 0 by decide, if_true, show (-1 : Int) < 0 by decide]
    congr 1
    congr 1
    omega
  rw [kmk_pick_nat _ e]
  show ((strValues st).drop 0).take ((sls st).size - 1 - 0) = _
  rw [List.drop_zero, Nat.sub_zero, sls_size, List.dropLast_eq_take]
  simp [strValues, List.map_take]
local macro_rules | `(tactic| walk_at "subscriptTail Name Slice ref ref") => `(tactic| (k_here; k_dflt (refine' kmk_slice_lit ?F ?N ?l ?p ?q ?e ?_ ?s ?t ?z; (case F => k_asm); (case N => k_asm); (case l => exact ⟨_, News.get (by k_asm) (by k_mem), rfl, _, rfl⟩); (case p => exact IsPart.none); (case q => exact IsPart.int _ _); (case e => exact drop_pick _); (case s => with_unfolding_all rfl); (case t => intro _; rfl); (case z => (rw [sls_size]; simp only [sizeLine]; omega))); intro D' h' F' N' l1; (try k_lt l1)))
section
variable {prog : Program} {w : World} {A : Around} {E : Value → Shared → Prop} {s : Shared} {h₀ : Heap} {L a b : Addr} {m : Str → Option Value} {news : List (Addr × Obj)} {st : List (Str × Tok)} {p : Str} {tp : Tok}
theorem cat_one {n n2 : Nat} {Q : Value → Shared → Prop} (F : Fr h₀ L s.heap m) (N : News h₀ L s.heap news) (ha : (a, listOf (sls st) n) ∈ news) (hb : (b, listOf [Value.str p tp].toArray n2) ∈ news) (hz : st.length ≤ 1000)
    (h : ∀ D h', Fr h₀ L h' m → News h₀ L h' ((D, listOf (sls (st ++ [(p, tp)])) 0) :: news) → (∀ p ∈ news, p.1 < D) → Q (.ref D) { s with heap := h' }) : wpAny (model prog w) A (binaryOp .Add (.ref a) (.ref b)) Q E s := by
  refine kmk_add_lit F N ⟨_, (N _ ha).1, rfl, _, rfl⟩ ⟨_, (N _ hb).1, rfl, _, rfl⟩ (zs := strValues (st ++ [(p, tp)])) ?_ h ?_
  · rw [strValues_snoc]
  · simp only [strValues, List.length_map, List.length_cons, List.length_nil, sizeLine]; omega
end
local macro_rules | `(tactic| walk_at "binaryOp Add ref ref") => `(tactic| (k_here; k_dflt (refine cat_one (by k_asm) (by k_asm) (by k_mem) (by k_mem) (by omega) ?_); intro D' h' F' N' l1; (try k_lt l1)))
local macro_rules | `(tactic| walk_at "call builtin:str.join") => `(tactic| (k_here; k_dflt (refine' join_str (B := 100) ?k1 ?k2 ?k3 ?k4 ?_; (case k1 => k_asm); (case k2 => k_mem); (case k3 => assumption); (case k4 => assumption); k_whole); intro t' k'))
local macro_rules | `(tactic| walk_at "my side") => `(tactic| ((case ho => k_is); (case hcd => k_is); (case hroom => decide); (case hcell => decide); (case hco => rfl); (case hgen => rfl); (case hk => rfl)))
local macro_rules | `(tactic| walk_at "call ref") => `(tactic| (k_here; refine Stop.intro ?_))
local macro_rules | `(tactic| walk_at "eval IfExp") => `(tactic| (k_here; refine Stop.intro ?_))
local macro_rules | `(tactic| walk_at "exec For Name Name cons nil") => `(tactic| (k_here; refine Stop.intro ?_))
local macro_rules | `(tactic| walk_at "pyIter ref") => `(tactic| (k_here; refine Stop.intro ?_))
section
variable {w : World} {b₀ : Heap} {mean : ExcName → Option Value} {mg mb : Str → Option Value} {A : Around} {s : Shared}
set_option pp.deepTerms false
set_option pp.deepTerms.threshold 6
inductive PlI (name : Str) (t : Tok) (xs : List (Str × Tok)) (st0 : List Str) (i : Nat) (m : Str → Option Value) (news' : List (Addr × Obj)) : Prop
  | mk (l : Addr) (st : List (Str × Tok)) (n : Nat) (e : news' = [(l, listOf (sls st) n)]) (e1 : m (Str.ofString "steps") = some (.ref l)) (e2 : m (Str.ofString "name") = some (.str name t)) (hm : st.map (·.1) = (xs.take i).foldl (fun a p => pstep a p.1) st0) (hl : st.length ≤ i + 1) (hz : ∀ y ∈ st.map (·.1), y.length ≤ 100) : PlI name t xs st0 i m news'
inductive PlA (g : Heap) (L : Addr) (m : Str → Option Value) (s : Shared) (x0 : Str) (v : Value) (s' : Shared) : Prop
  | mk (D : Addr) (st0 : List (Str × Tok)) (h' : Heap) (tk' : Nat) (ev : v = .ref D) (es : s' = { s with heap := h', toks := tk' }) (e : st0.map (·.1) = (if x0 = Str.ofString "" then [] else [Str.ofString "r"])) (F : Fr g L h' m) (N : News g L h' [(D, listOf (sls st0) 0)]) : PlA g L m s x0 v s'
theorem pl_mid {M : Model} {t : Sem Value} {g : Heap} {L : Addr} {m : Str → Option Value} {h : Heap} {x0 : Str} {Q : Value → Shared → Prop} (_ : Fr g L h m) (H1 : wpAny M A t (PlA g L m s x0) no s)
    (H2 : ∀ v s', PlA g L m s x0 v s' → Q v s') : wpAny M A t Q no s := wpAny_mono H1 H2 fun _ _ h => h
theorem place_ct {P : Addr} {xs : List (Str × Tok)} {name : Str} {t : Tok} {Q : Value → Shared → Prop} (W : Wd w b₀ mean mg mb) (stb : b₀.StaysIn s.heap) (H : Room A 2)
    (hP : s.heap.IsList P (sls xs)) (hx0 : xs ≠ []) (hxz : xs.length ≤ 50) (hxl : ∀ x ∈ xs, x.1.length ≤ 100) (hnl : name.length ≤ 100)
    (ret : ∀ h' tk' t', s.heap.StaysIn h' → Q (.str (placeOf (xs.map (·.1)) name) t') { s with heap := h', toks := tk' }) :
    wpAny (model PySem.Challenge.rw_ik0148_01.row.prog w) A (call (.ref 271) [.ref P, .str name t]) Q no s := by
  refine H.wp ?_
  have KX := W.K
  revert KX
  k_fill
  intro KX
  refine' enter (binds := [(Str.ofString "pieces", .ref P), (Str.ofString "name", .str name t)]) [] W stb (fun x hx => nomatch hx) ?ho ?hcd ?hroom ?hbind ?hloc ?_ ?hcell ?hco ?hgen ?hk
  walk_at "my side"
  case hbind => exact BindsTo.of_eq rfl
  case hloc => exact locs rfl
  intro g L h₁ hg hL F hk₁ KG TG
  have N : News g L h₁ [] := News.nil
  have gP : g.IsList P (sls xs) := by rw [hg]; exact hP
  clear KX
  obtain ⟨⟨x0, tx0⟩, xr, rfl⟩ := List.exists_cons_of_ne_nil hx0
  k_with "subscriptTail" => (refine tail_any (Fr.lst (by k_asm) gP).typeIs slot_list_getitem.lookup (wpAny_getItem_list (Fr.lst (by k_asm) gP) (by decide) (by decide) (x := .str x0 tx0) rfl ?_) (by with_unfolding_all rfl))
  have pins : ∀ {h : Heap} {m : Str → Option Value} {l : Addr}, Fr g L h m → m (Str.ofString "steps") = some (.ref l) → m (Str.ofString "name") = some (.str name t) →
      Fr g L h (fun y => match [(Str.ofString "steps", Value.ref l), (Str.ofString "name", .str name t)].lookup y with | some v => some v | none => m y) := fun F1 e1 e2 =>
    fr_pins F1 [(Str.ofString "steps", .ref _), (Str.ofString "name", .str name t)] (by simp only [List.forall_mem_cons]; exact ⟨e1, e2, fun _ h => nomatch h⟩)
  k_steps
  rename (Fr _ _ _ _) => F1
  refine Stop.here (pl_mid (x0 := x0) F1 ?_ ?_)
  · refine wpAny_IfExp ?_
    k_steps
    all_goals (
      rename (Fr _ _ _ _) => F3
      rename (News _ _ _ _) => N3)
    · rename ((x0 == Str.ofString "") = true) => h0
      exact ⟨_, [], _, _, rfl, rfl, by rw [if_pos (eq_of_beq h0)]; rfl, F3, N3⟩
    · rename ((x0 == Str.ofString "") = false) => h0
      exact ⟨_, [(_, _)], _, _, rfl, rfl, by rw [if_neg (by simpa using h0)]; rfl, F3, N3⟩
  · rintro v s' ⟨D, st0, h', tk', rfl, rfl, hst0, F2, N2⟩
    clear F1
    k_steps
    rename (Fr _ _ _ _) => F3
    rename (News _ _ _ _) => N4
    refine Stop.here (wpAny_For ?_ (by intro _; rfl))
    k_steps
    refine Stop.here (iter_list (vs := sls ((x0, tx0) :: xr)) rfl (PlI name t ((x0, tx0) :: xr) (st0.map (·.1)))
      F3 N4 (F3.lst gP) ⟨_, st0, 0, rfl, rfl, rfl, rfl, ?_, ?_⟩ ?_ ?_ ?_)
    · have := congrArg List.length hst0
      rw [List.length_map] at this
      rw [this]; split <;> simp
    · intro y hy
      rw [hst0] at hy
      split at hy
      · cases hy
      · rw [List.mem_singleton.mp hy]; decide
    · rintro i m' news' h' _ F5 _
      exact F5.lst gP
    · intro it oi i v m' news' h' tk' hit hni hv hI F5 N5
      refine hideF fun PP hPP => ?_
      revert hit hni F5 N5
      rcases hI with ⟨l, st, n, rfl, e1, e2, hst, hsl, hsb⟩
      intro hit hni F5 N5
      have hi : i < ((x0, tx0) :: xr).length := by
        have := (Array.getElem?_eq_some_iff.mp hv).1
        rwa [sls_size] at this
      obtain ⟨p, tp, hp⟩ : ∃ p tp, ((x0, tx0) :: xr)[i]? = some (p, tp) := ⟨_, _, List.getElem?_eq_getElem hi⟩
      obtain rfl : v = .str p tp := by
        rw [List.getElem?_toArray, strValues, List.getElem?_map, hp] at hv
        exact (Option.some.inj hv).symm
      have hpl : p.length ≤ 100 := hxl _ (List.mem_of_getElem? hp)
      have F6 := pins F5 e1 e2
      clear F5 F3 N4
      have hstep : (((x0, tx0) :: xr).take (i + 1)).foldl (fun a p => pstep a p.1) (st0.map (·.1)) = pstep (st.map (·.1)) p := by
        rw [List.take_add_one, hp, List.foldl_append, ← hst]; rfl
      k_steps
      refine Stop.here (wpAny_IfExp ?_)
      k_steps
      · rename ((p == Str.ofString "..") = true) => hd
        rename (Fr _ _ _ _) => F7
        rename (News _ _ _ _) => N7
        refine hPP _ _ (Stop.here ?_)
        refine ⟨_, _, _, [(_, listOf (sls st.dropLast) 0)], rfl, F7, ?_, ?_, _, st.dropLast, 0, rfl, rfl, rfl, ?_, ?_, ?_⟩
        · intro q hq; simp only [List.mem_cons, List.not_mem_nil, or_false] at hq; rcases hq with rfl | rfl
          · exact N7 _ (by k_mem)
          · exact N7 _ (by k_mem)
        · intro q hq; rw [List.mem_singleton.mp hq]; exact Nat.ne_of_gt (by omega)
        · rw [hstep, pstep, if_pos (eq_of_beq hd), List.map_dropLast]
        · rw [List.length_dropLast]; omega
        · intro y hy
          rw [List.map_dropLast] at hy
          exact hsb y (List.dropLast_subset _ hy)
      refine Stop.here (wpAny_IfExp ?_)
      k_steps
      · rename ((p == Str.ofString "..") = false) => hd
        rename (List.any _ _ = true) => hin
        rename (Fr _ _ _ _) => F7
        rename (News _ _ _ _) => N7
        refine hPP _ _ (Stop.here ?_)
        refine ⟨_, _, _, [(l, listOf (sls st) n)], rfl, F7, ?_, hni, _, st, n, rfl, rfl, rfl, ?_, by omega, hsb⟩
        · intro q hq; simp only [List.mem_cons, List.not_mem_nil, or_false] at hq; rcases hq with rfl | rfl
          · exact N7 _ (by k_mem)
          · exact N7 _ (by k_mem)
        · have h2 : p = Str.ofString "." ∨ p = Str.ofString "" := by
            simp only [List.any_cons, List.any_nil, Bool.or_false, Bool.or_eq_true, beq_iff_eq] at hin
            exact hin.elim (fun e => .inl e.symm) fun e => .inr e.symm
          rw [hstep, pstep, if_neg (by simpa using hd), if_pos h2]
      · rename ((p == Str.ofString "..") = false) => hd
        rename (List.any _ _ = false) => hin
        rename (Fr _ _ _ _) => F7
        rename (News _ _ _ _) => N7
        refine hPP _ _ (Stop.here ?_)
        refine ⟨_, _, _, [(_, listOf (sls (st ++ [(p, tp)])) 0)], rfl, F7, ?_, ?_, _, st ++ [(p, tp)], 0, rfl, rfl, rfl, ?_, ?_, ?_⟩
        · intro q hq; simp only [List.mem_cons, List.not_mem_nil, or_false] at hq; rcases hq with rfl | rfl
          · exact N7 _ (by k_mem)
          · exact N7 _ (by k_mem)
        · intro q hq; rw [List.mem_singleton.mp hq]; exact Nat.ne_of_gt (by omega)
        · have h2 : ¬ (p = Str.ofString "." ∨ p = Str.ofString "") := by
            simp only [List.any_cons, List.any_nil, Bool.or_false, Bool.or_eq_false_iff, beq_eq_false_iff_ne] at hin
            exact fun e => e.elim (fun e => hin.1 e.symm) fun e => hin.2 e.symm
          rw [hstep, pstep, if_neg (by simpa using hd), if_neg h2, List.map_append]; rfl
        · simp only [List.length_append, List.length_singleton]; omega
        · intro y hy
          rw [List.map_append, List.mem_append] at hy
          rcases hy with hy | hy
          · exact hsb y hy
          · rw [List.mem_singleton.mp hy]; exact hpl
    · rintro m' news' h' tk' ⟨l, st, n, rfl, e1, e2, hst, hsl, hsb⟩ F5 N5
      rw [sls_size] at hst hsl
      rw [List.take_length] at hst
      have F6 := pins F5 e1 e2
      clear F5 F3 N4
      have hB : ∀ y ∈ (st ++ [(name, t)]).map (·.1), y.length ≤ 100 := by
        intro y hy
        rw [List.map_append, List.mem_append] at hy
        rcases hy with hy | hy
        · exact hsb y hy
        · rw [List.mem_singleton.mp hy]; exact hnl
      have hsl1 : (Str.ofString "/").length = 1 := by decide
      have hlen : (st ++ [(name, t)]).length ≤ 60 := by simp only [List.length_append, List.length_singleton]; omega
      have hj : (st ++ [(name, t)]).length * 100 + (st ++ [(name, t)]).length * (Str.ofString "/").length ≤ 16777216 := by rw [hsl1]; omega
      have hjl : (Txt.join (Str.ofString "/") ((st ++ [(name, t)]).map (·.1))).length ≤ 200000 := by
        have := join_len (sep := Str.ofString "/") hB
        rw [hsl1, List.length_map] at this
        omega
      have e : placeOf (((x0, tx0) :: xr).map (·.1)) name = Str.ofString "/" ++ Txt.join (Str.ofString "/") ((st ++ [(name, t)]).map (·.1)) := by
        unfold placeOf
        rw [List.map_append, hst, hst0, List.foldl_map]; rfl
      k_steps
      rename (Fr _ _ _ _) => F7
      rw [e] at ret
      exact ret _ _ _ (fun b o e => F7.keep b o (hg ▸ e))
end
end TR2
end Mine

namespace Mine
section TD1
open PySem PySem.W PyProof.Rows PySem.Calls
set_option maxRecDepth 100000
set_option maxHeartbeats 1000000
section
variable {w : World} {b₀ : Heap} {mean : ExcName → Option Value} {mg mb : Str → Option Value} {A : Around} {E : Value → Shared → Prop} {s : Shared}
theorem enterC {name qual : Str} {params : Arguments} {body : List Stmt} {scope : Scope} {dV kV doc pm cdv ct oc : Value} {an od : Option Addr} {osl : Array (Option Value)} {f : Addr} {args : List Value} {kw : List (Str × Value)} {binds : List (Str × Value)} {Q : Value → Shared → Prop}
    (W : Wd w b₀ mean mg mb) (st : b₀.StaysIn s.heap)
    (ho : (KK w.params).lookup f = some ⟨oc, od, .func (fnOf name qual params body scope dV kV doc pm an cdv ct), osl⟩) (hcd : codeIn (KK w.params) cdv qual = true) (hroom : A.depth < recursionLimit)
    (hbind : BindsTo s (fnOf name qual params body scope dV kV doc pm an cdv ct) ⟨args, kw⟩ binds) (hkind : (binds.all fun y => scope.names.lookup y.1 == some .local || scope.names.lookup y.1 == some .cell) = true)
    (hnd : ((cellsFrom 0 scope.names []).map (·.1)).Nodup)
    (h : ∀ g L h₁ tk cells, g = s.heap → L = s.heap.objs.size → Fr g L h₁ (bindL (envOfC qual scope L f cdv).kindOf binds fun _ => none) → News g L h₁ cells →
      CellsAre (bindC (envOfC qual scope L f cdv).kindOf binds fun _ => none) (cellsFrom (L + 1) scope.names []) cells → (KK w.params).In g → TopF mean mg mb g →
      wpAny (model PySem.Challenge.rw_ik0148_01.row.prog w) (A.deeper (envOfC qual scope L f cdv)) (execs body (envOfC qual scope L f cdv))
        (fun fl s' => Q (match fl with | .ret v => v | _ => .none) s') (fun _ _ => False) { s with heap := h₁, toks := tk })
    (hco : scope.isCoroutine = false) (hgen : scope.isGenerator = false) (hk : scope.kind = .function) :
    wpAny (model PySem.Challenge.rw_ik0148_01.row.prog w) A (call (.ref f) args kw) Q E s := by
  refine wpAny_call (codeAny_call_function (fd := fnOf name qual params body scope dV kV doc pm an cdv ct) (body := body) hroom (W.K.keeps st _ _ ho) rfl hco hgen rfl (codeRec_of (W.K.keeps st) hcd) (hbind _ _ _ _ ?_))
  refine wpAny_newFunctionEnv_cells hk (kindsX hkind _) fun env' he s' x => ?_
  subst he
  refine ⟨(W.T.nolimit.keeps st).keeps x.toInCall.keep, codeAny_func ?_⟩
  obtain ⟨h₁, tk, rfl, _⟩ := x.done
  have hk₁ := x.toInCall.keep
  obtain ⟨cells, NC, Y⟩ := Cl.news (h₀ := s.heap) (Nat.le_refl _) fun n c hm => ⟨x.cell n c (lookup_of_mem_nodup (cellsFrom_names scope.names 0 (s.heap.objs.size + 1) [] [] rfl ▸ hnd) hm), x.above n c hm⟩
  exact wpAny_mono (h _ s.heap.objs.size h₁ tk cells rfl rfl ⟨x.toInCall.ns, hk₁, Nat.le_refl _⟩ NC Y (W.K.keeps st) (W.T.keeps st)) (fun fl s' hl => hl) fun _ _ y => y.elim
end
local macro_rules | `(tactic| walk_at "my side") => `(tactic| ((case ho => k_is); (case hcd => k_is); (case hroom => decide); (case hcell => decide); (case hco => rfl); (case hgen => rfl); (case hk => rfl)))
section
variable {w : World} {b₀ : Heap} {mean : ExcName → Option Value} {mg mb : Str → Option Value} {A : Around} {s : Shared}
set_option pp.deepTerms false
set_option pp.deepTerms.threshold 6
def belowB (md nm : Str) : Bool := md == nm || Txt.slice md none (some ((nm.length : Int) + 1)) == nm ++ Str.ofString "." 
theorem below_ct {md nm : Str} {t1 t2 : Tok} {Q : Value → Shared → Prop} (W : Wd w b₀ mean mg mb) (stb : b₀.StaysIn s.heap) (H : Room A 2) (h1 : md.length ≤ 1000) (h2 : nm.length ≤ 1000)
    (ret : ∀ h' tk', s.heap.StaysIn h' → Q (.bool (belowB md nm)) { s with heap := h', toks := tk' }) :
    wpAny (model PySem.Challenge.rw_ik0148_01.row.prog w) A (call (.ref 278) [.str md t1, .str nm t2]) Q no s := by
  refine H.wp ?_
  have KX := W.K
  revert KX
  k_fill
  intro KX
  refine' enter (binds := [(Str.ofString "module", .str md t1), (Str.ofString "named", .str nm t2)]) [] W stb (fun x hx => nomatch hx) ?ho ?hcd ?hroom ?hbind ?hloc ?_ ?hcell ?hco ?hgen ?hk
  walk_at "my side"
  case hbind => exact BindsTo.of_eq rfl
  case hloc => exact locs rfl
  intro g L h₁ hg hL F hk₁ KG TG
  have N : News g L h₁ [] := News.nil
  clear KX
  k_steps
  all_goals (rename (Fr _ _ _ _) => F3)
  · rename ((md == nm) = true) => q
    have e : belowB md nm = (md == nm) := by unfold belowB; rw [q]; rfl
    rw [e] at ret
    exact ret _ _ (fun b o e => F3.keep b o (hg ▸ e))
  · rename ((md == nm) = false) => q
    have e : belowB md nm = (Txt.slice md none (some ((nm.length : Int) + 1)) == nm ++ Str.ofString ".") := by unfold belowB; rw [q]; rfl
    rw [e] at ret
    exact ret _ _ (fun b o e => F3.keep b o (hg ▸ e))
theorem below_K {g : Heap} {L : Addr} {m : Str → Option Value} {news : List (Addr × Obj)} {md nm : Str} {t1 t2 : Tok} {Q : Value → Shared → Prop} (W : Wd w b₀ mean mg mb) (gst : b₀.StaysIn g) (H : Room A 2)
    (F : Fr g L s.heap m) (N : News g L s.heap news) (h1 : md.length ≤ 1000) (h2 : nm.length ≤ 1000)
    (ret : ∀ h' tk', Fr g L h' m → News g L h' news → Q (.bool (belowB md nm)) { s with heap := h', toks := tk' }) :
    wpAny (model PySem.Challenge.rw_ik0148_01.row.prog w) A (call (.ref 278) [.str md t1, .str nm t2]) Q no s :=
  below_ct W (fun b o e => F.keep b o (gst b o e)) H h1 h2 fun h' tk' k => ret h' tk' (fr_stay F k) (news_stay N k)
end
end TD1
end Mine

namespace Mine
section TD3
open PySem PySem.W PyProof.Rows PySem.Calls
set_option maxRecDepth 100000
set_option maxHeartbeats 1000000
theorem reads_strs {h : Heap} : ∀ xs : List (Str × Tok), ReadsAll h (strValues xs) (xs.map fun x => PyData.str x.1) []
  | [] => .nil
  | x :: r => by
    show ReadsAll h (Value.str x.1 x.2 :: strValues r) (PyData.str x.1 :: r.map fun x => PyData.str x.1) ([] ++ [])
    exact ReadsAll.cons (Reads.str x.1 x.2) (reads_strs r)
theorem shaped_strs : ∀ xs : List (Str × Tok), (∀ x ∈ xs, PyData.strOk x.1 = true) → PyData.canLayAll0 (xs.map fun x => PyData.str x.1) = true ∧ PyData.depthAll (xs.map fun x => PyData.str x.1) ≤ 1
  | [], _ => ⟨rfl, Nat.zero_le _⟩
  | x :: r, h => by
    obtain ⟨a, b⟩ := shaped_strs r fun y hy => h y (.tail _ hy)
    constructor
    · simp only [List.map_cons, PyData.canLayAll0, PyData.canLay0, a, h x (.head _), Bool.and_self]
    · simp only [List.map_cons, PyData.depthAll, PyData.depth]; omega
theorem shaped_list {ds : List PyData} (a : PyData.canLayAll0 ds = true) (b : PyData.depthAll ds ≤ 8) : SeqAt.shaped (.list ds) = true := by
  unfold SeqAt.shaped
  have e : PyData.depth (.list ds) ≤ 64 := by simp only [PyData.depth]; omega
  have c : PyData.canLay0 (.list ds) = true := by simpa only [PyData.canLay0] using a
  rw [c, Bool.true_and]
  exact decide_eq_true e
section
variable {prog : Program} {w : World} {A : Around} {E : Value → Shared → Prop} {s : Shared} {a b : Addr} {xs : List (Str × Tok)} {Q : Value → Shared → Prop}
theorem ne_nil {vs : List Value} {ds : List PyData} {as : List Addr} (ha : s.heap.IsList a vs.toArray) (hb : s.heap.IsList b #[]) (r : ReadsAll s.heap vs ds as) (c1 : PyData.canLayAll0 ds = true) (c2 : PyData.depthAll ds ≤ 8) (hu : A.units + 64 < cLine) (h : Q (.bool (!ds.isEmpty)) s) :
    wpAny (model prog w) A (compareOp .NotEq (.ref a) (.ref b)) Q E s := by
  obtain ⟨o, ho, hc, n, hd⟩ := ha
  obtain ⟨o2, ho2, hc2, n2, hd2⟩ := hb
  refine ne_dataH (reads_list_at ho hc hd (by simpa using r)) (reads_list_at ho2 hc2 hd2 (xs := []) ReadsAll.nil) (shaped_list c1 c2) (shaped_list rfl (Nat.zero_le _)) hu ?_
  have e : PyData.eqv (.list ds) (.list []) = ds.isEmpty := by cases ds <;> simp [PyData.eqv, PyData.eqvAll]
  rw [e]; exact h
theorem ne_nil_strs (ha : s.heap.IsList a (sls xs)) (hb : s.heap.IsList b #[]) (ok : ∀ x ∈ xs, PyData.strOk x.1 = true) (hu : A.units + 64 < cLine) (h : Q (.bool (!xs.isEmpty)) s) :
    wpAny (model prog w) A (compareOp .NotEq (.ref a) (.ref b)) Q E s := by
  obtain ⟨c1, c2⟩ := shaped_strs xs ok
  refine ne_nil ha hb (reads_strs xs) c1 (by omega) hu ?_
  have e : (xs.map fun x => PyData.str x.1).isEmpty = xs.isEmpty := by cases xs <;> rfl
  rw [e]; exact h
end
end TD3
end Mine

namespace Mine
section TD2
open PySem PySem.W PyProof.Rows PySem.Calls
set_option maxRecDepth 100000
set_option maxHeartbeats 1000000
inductive Fa {α β : Type} (R : α → β → Prop) : List α → List β → Prop
  | nil : Fa R [] []
  | cons {a : α} {b : β} {as : List α} {bs : List β} : R a b → Fa R as bs → Fa R (a :: as) (b :: bs)
theorem Fa.length {α β : Type} {R : α → β → Prop} {as : List α} {bs : List β} (h : Fa R as bs) : as.length = bs.length := by
  induction h with
  | nil => rfl
  | cons _ _ ih => rw [List.length_cons, List.length_cons, ih]
theorem Fa.mono {α β : Type} {R R' : α → β → Prop} (hR : ∀ a b, R a b → R' a b) {as : List α} {bs : List β} (h : Fa R as bs) : Fa R' as bs := by
  induction h with
  | nil => exact .nil
  | cons r _ ih => exact .cons (hR _ _ r) ih
theorem Fa.append {α β : Type} {R : α → β → Prop} {as as' : List α} {bs bs' : List β} (h : Fa R as bs) (h' : Fa R as' bs') : Fa R (as ++ as') (bs ++ bs') := by
  induction h with
  | nil => exact h'
  | cons r _ ih => exact .cons r ih
theorem Fa.get {α β : Type} {R : α → β → Prop} {as : List α} {bs : List β} (h : Fa R as bs) : ∀ {i : Nat} {a : α}, as[i]? = some a → ∃ b, bs[i]? = some b ∧ R a b := by
  induction h with
  | nil => intro i a e; simp at e
  | cons r _ ih =>
    intro i a e
    cases i with
    | zero => rw [List.getElem?_cons_zero] at e ⊢; cases e; exact ⟨_, rfl, r⟩
    | succ i => rw [List.getElem?_cons_succ] at e ⊢; exact ih e
theorem Fa.mem {α β : Type} {R : α → β → Prop} {as : List α} {bs : List β} (h : Fa R as bs) {a : α} (ha : a ∈ as) : ∃ b ∈ bs, R a b := by
  obtain ⟨i, hi⟩ := List.mem_iff_getElem?.mp ha
  obtain ⟨b, hb, r⟩ := h.get hi
  exact ⟨b, List.mem_of_getElem? hb, r⟩
abbrev Row := Int × Str × Str
def Row3 (h : Heap) (a : Addr) (r : Row) : Prop := ∃ t1 t2 t3 n, h.get? a = some (listOf #[.int r.1 t1, .str r.2.1 t2, .str r.2.2 t3] n)
abbrev Led := List (Addr × Obj)
def In2 (news : Led) (a : Addr) (k : Str × Int) : Prop := ∃ t t' n, (a, listOf #[.str k.1 t, .int k.2 t'] n) ∈ news
def In4 (news : Led) (a : Addr) (r : Row × Int) : Prop := ∃ t1 t2 t3 t4 n, (a, listOf #[.int r.1.1 t1, .str r.1.2.1 t2, .str r.1.2.2 t3, .int r.2 t4] n) ∈ news
theorem In2.more {news : Led} {x : Addr × Obj} {a : Addr} {k : Str × Int} (h : In2 news a k) : In2 (x :: news) a k := h.elim fun t h => h.elim fun t' h => h.elim fun n h => ⟨t, t', n, .tail _ h⟩
theorem In4.more {news : Led} {x : Addr × Obj} {a : Addr} {r : Row × Int} (h : In4 news a r) : In4 (x :: news) a r := h.elim fun t1 h => h.elim fun t2 h => h.elim fun t3 h => h.elim fun t4 h => h.elim fun n h => ⟨t1, t2, t3, t4, n, .tail _ h⟩
/-- what _law_due knows of a module -/
def dueKnown (st : List (Str × Int)) (md : Str) : List Int := (st.filter fun k => k.1 == md).map (·.2)
def dueNew (ms ds : List Str) (r : Row) : Int :=
  if (r.2.2 == Str.ofString "<string>") = true ∨ (ms.filter fun m => belowB r.2.2 m) ++ (ds.filter fun d => Txt.slice r.2.1 none (some ((d.length : Int) + 1)) == d ++ Str.ofString "/") ≠ [] then 1 else 0
def dueStep (ms ds : List Str) (st : List (Str × Int) × List (Row × Int)) (r : Row) : List (Str × Int) × List (Row × Int) :=
  match dueKnown st.1 r.2.2 with
  | [] => (st.1 ++ [(r.2.2, dueNew ms ds r)], st.2 ++ [(r, dueNew ms ds r)])
  | v :: _ => (st.1, st.2 ++ [(r, v)])

section
variable {M : Model} {A : Around} {E : Value → Shared → Prop} {s : Shared} {h₀ : Heap} {C c : Addr} {m : Str → Option Value} {news : List (Addr × Obj)} {scope : Scope} {cl : List (Str × Addr)} {env : Env} {x : Str} {pos : Pos} {v : Value} {o : Obj} {K : Frag} {mg mb : Str → Option Value} {p : Program} {loose : List Str}
theorem nameC_F {Q : Value → Shared → Prop} (N : News h₀ C s.heap news) (hc : cl.lookup x = some c) (hm : (c, o) ∈ news) (hd : o.data = .cell (some v)) (h : Q v s)
    (hk : (compEnvC scope cl C env).scope.kind = .function) (hx : (compEnvC scope cl C env).kindOf x = some .free) (hb : (x == ("__debug__" : Str)) = false) (hn : (x == ("__classdict__" : Str)) = false) :
    wpAny M A (eval (.Name x pos) (compEnvC scope cl C env)) Q E s := wpAny_Name (wpAny_loadName_free hk hx hc ⟨o, N.get hm, hd⟩ h hn) hb
theorem nameC_B {Q : Value → Shared → Prop} (F : Fr h₀ C s.heap m) (X : K.In h₀) (T : TopRead p loose mg mb h₀) (e : nsIn K mainGlobals x = some none) (hv : bootBuiltins x = some v) (hn : x ≠ "__name__") (h : Q v s)
    (hg : (compEnvC scope cl C env).globals = mainGlobals) (hbb : (compEnvC scope cl C env).builtins = builtinsNs) (hk : (compEnvC scope cl C env).scope.kind = .function) (hx : (compEnvC scope cl C env).kindOf x = some .globalImplicit) (hd : (x == ("__debug__" : Str)) = false) :
    wpAny M A (eval (.Name x pos) (compEnvC scope cl C env)) Q E s :=
  Name_function_global hk hx (loadGlobal_builtin (env := compEnvC scope cl C env) (by rw [hg]; exact T.g.keeps F.keep) (mg_none_of X T.g e) (by rw [hbb]; exact T.b.keeps F.keep) ((T.builtins x hn).trans hv) h) hd
end

theorem comp_postA {M : Model} {A : Around} {s : Shared} {env : Env} {x : Str} {px : Pos} {g : Heap} {L C D : Addr} {m m' : Str → Option Value} {oL : Obj} {n : Nat} {ys : List Value} {news' : List (Addr × Obj)} {h' : Heap} {tk : Tok} {Q : Value → Shared → Prop}
    (hk : env.scope.kind = .function) (hx : env.kindOf x = some .local) (hl : env.locals = L)
    (F0 : Fr g L s.heap m) (hLD : L < D) (hLC : L < C) (aL : AllNe L news') (aD : AllNe D news') (F : Fr g C h' m') (N : News g C h' ((L, oL) :: (D, listOf ys.toArray n) :: news')) (hL : h'.Ns L m)
    (hq : ∀ h'', Fr g L h'' (fun y => if y = x then some (.ref D) else m y) → News g L h'' ((D, listOf ys.toArray n) :: news') → AllNe D news' → L < D → Q .none { s with heap := h'', toks := tk + 1 }) :
    compPost M A no (some (assign (.Name x px) env)) Q (.ref D) C (.ok .next) { s with heap := h', toks := tk } := by
  subst hl
  have gL : g.get? env.locals = none := by
    cases q : g.get? env.locals with
    | none => rfl
    | some o => exact absurd (Nat.lt_of_lt_of_le (Heap.lt_size q) F0.above) (Nat.lt_irrefl _)
  have gC : g.get? C = none := by
    cases q : g.get? C with
    | none => rfl
    | some o => exact absurd (Nat.lt_of_lt_of_le (Heap.lt_size q) F.above) (Nat.lt_irrefl _)
  refine wpAny_assign_Name (wpAny_storeName_local hx hL (fun h2 hn hs => ⟨m', F.ns.sameBut hs (Nat.ne_of_gt hLC), fun h3 hs3 => hq h3 ⟨hn.sameBut hs3 (Nat.ne_of_lt hLC), fun b o e => ?_, F0.above⟩ (fun p hp => ?_) aD hLD⟩) (by rw [hk]; rfl))
  · exact hs3.extBut b o (fun q => by rw [q, gC] at e; cases e) (hs.extBut b o (fun q => by rw [q, gL] at e; cases e) (F.keep b o e))
  · have z := N p (.tail _ hp)
    have nL : p.1 ≠ env.locals := by
      rcases List.mem_cons.mp hp with rfl | hp
      · exact Nat.ne_of_gt hLD
      · exact allNe_mem aL p hp
    exact ⟨hs3.extBut _ _ z.2.1 (hs.extBut _ _ nL z.1), nL, z.2.2⟩

theorem cend {g h : Heap} {L C it D : Addr} {s : Shared} {oL oi : Obj} {n : Nat} {ys : List Value} {J : List (Addr × Obj) → Prop} {news : List (Addr × Obj)} {m : Str → Option Value} {tk : Tok}
    (F : Fr g C h m) (N : News g C h ((L, oL) :: (it, oi) :: (D, listOf ys.toArray n) :: news)) (a1 : AllNe L news) (a2 : AllNe it news) (a3 : AllNe D news) (hJ : J news) : CEnd g L C s oL it oi D n ys J { s with heap := h, toks := tk } :=
  ⟨h, tk, m, news, rfl, F, fun p hp => N p (.tail _ (.tail _ (.tail _ hp))), (N _ (.head _)).1, (N _ (.tail _ (.head _))).1, (N _ (.tail _ (.tail _ (.head _)))).1, a1, a2, a3, hJ⟩
theorem comp_blockC {prog : Program} {w : World} {A : Around} {s : Shared} {env : Env} {elt target iter : PySem.Expr} {ifs : List PySem.Expr} {scope : Scope} {pos : Pos} {cl : List (Str × Addr)} {g : Heap} {L l : Addr} {m : Str → Option Value} {news : List (Addr × Obj)} {vs : Array Value} {RR : Value → Addr → Result → Shared → Prop} (hh : A.handled = none)
    (I : Nat → List Value → Prop) (F : Fr g L s.heap m) (N : News g L s.heap news) (hl : s.heap.IsList l vs) (hz : vs.size ≤ 1000)
    (hcell : ∀ y ∈ scope.names, y.2 ≠ .cell) (hkind : scope.kind = .function)
    (h0 : I 0 [])
    (keep : ∀ C m' h', Fr g C h' m' → News g C h' news → h'.IsList l vs)
    (turn : ∀ C it D oL oi n i ys v m' h' tk (P1 : Value → Shared → Prop) (P0 : Shared → Prop), (∀ x h m₂ tk₂, Fr g C h m₂ → News g C h ((L, oL) :: (it, oi) :: (D, listOf ys.toArray n) :: news) → I (i + 1) (ys ++ [x]) → P1 x { s with heap := h, toks := tk₂ }) →
      (∀ h m₂ tk₂, Fr g C h m₂ → News g C h ((L, oL) :: (it, oi) :: (D, listOf ys.toArray n) :: news) → I (i + 1) ys → P0 { s with heap := h, toks := tk₂ }) → L < it → it < D → D < C → AllNe L news → AllNe it news → AllNe D news → vs[i]? = some v → I i ys → Fr g C h' m' → News g C h' ((L, oL) :: (it, oi) :: (D, listOf ys.toArray n) :: news) →
      wpAny (model prog w) A (assign target (compEnvC scope cl C env) v) (fun _ s₂ => wpAny (model prog w) A (forIn ifs true fun c r => if r = true then do let ok ← isTrue c (compEnvC scope cl C env) (eval c (compEnvC scope cl C env)); pure (ForInStep.yield ok) else pure (ForInStep.yield r)) (fun ok s₃ =>
        if ok = true then wpAny (model prog w) A (eval elt (compEnvC scope cl C env)) P1 no s₃
        else P0 s₃) no s₂) no { s with heap := h', toks := tk })
    (done : ∀ C D oL n ys m' h' tk, L < D → D < C → L < C → AllNe L news → AllNe D news → I vs.size ys → Fr g C h' m' → News g C h' ((L, oL) :: (D, listOf ys.toArray n) :: news) → h'.Ns L m → RR (.ref D) C (.ok .next) { s with heap := h', toks := tk }) :
    CompGo prog w A elt target iter ifs scope pos cl env RR (.ref l) s := by
  refine comp_block hh (fun i ys news' => news' = news ∧ I i ys) F N hl hz hcell hkind ⟨rfl, h0⟩ ?_ ?_ ?_
  · rintro C i m' ys news' h' ⟨rfl, _⟩ F1 N1
    exact keep C m' h' F1 N1
  · rintro C it D oL oi n i ys v m' news' h' tk - lt1 lt2 lt3 a1 a2 a3 hv ⟨rfl, hI⟩ F1 N1
    exact turn C it D oL oi n i ys v m' h' tk (fun x s₄ => Stop (CEnd g L C s oL it oi D n ys (fun news'' => news'' = news' ∧ I (i + 1) (ys ++ [x])) s₄)) (fun s₃ => Stop (CEnd g L C s oL it oi D n ys (fun news'' => news'' = news' ∧ I (i + 1) ys) s₃))
      (fun x h m₂ tk₂ F2 N2 hI => Stop.here (cend F2 N2 a1 a2 a3 ⟨rfl, hI⟩)) (fun h m₂ tk₂ F2 N2 hI => Stop.here (cend F2 N2 a1 a2 a3 ⟨rfl, hI⟩)) lt1 lt2 lt3 a1 a2 a3 hv hI F1 N1
  · rintro C D oL n ys m' news' h' tk lt1 lt2 lt3 - a1 a3 ⟨rfl, hI⟩ F1 N1 nsL
    exact done C D oL n ys m' h' tk lt1 lt2 lt3 a1 a3 hI F1 N1 nsL
theorem news_pick {g h : Heap} {L : Addr} {big small : List (Addr × Obj)} (N : News g L h big) (hs : ∀ p ∈ small, p ∈ big) : News g L h small := fun p hp => N p (hs p hp)
theorem ownOff_cons {a : Addr} {o : Obj} {ext : List (Addr × Obj)} {adr : List Addr} (h : ∀ b ∈ adr, @Ne Nat a b) (off : OwnOff ext adr) : OwnOff ((a, o) :: ext) adr := by
  intro p hp b hb
  rcases List.mem_cons.mp hp with rfl | hp
  · exact h b hb
  · exact off p hp b hb
local macro_rules | `(tactic| k_ne) => `(tactic| (refine neN ?_; (try dsimp only); first | assumption | (refine Ne.symm ?_; assumption)))
local macro_rules | `(tactic| walk_at "my tail") => `(tactic| first | assumption | (refine List.Mem.tail _ ?_; walk_at "my tail"))
local macro_rules | `(tactic| walk_at "my sub") => `(tactic| first | exact List.forall_mem_nil _ | (refine List.forall_mem_cons.mpr ⟨by k_mem, ?_⟩; walk_at "my sub") | (intro p hp; walk_at "my tail"))
local macro_rules | `(tactic| walk_at "my ne1") => `(tactic| first | exact List.forall_mem_nil _ | (refine List.forall_mem_cons.mpr ⟨?_, ?_⟩; (dsimp only; omega); walk_at "my ne1"))
local macro_rules | `(tactic| walk_at "my off") => `(tactic| first | exact List.forall_mem_nil _ | (refine List.forall_mem_cons.mpr ⟨by omega, ?_⟩; walk_at "my off"))
theorem filt_len {xs : List (Str × Tok)} {ys : List Str} {p : Str → Bool} (h : xs.map (·.1) = ys.filter p) (hz : ys.length ≤ 1000) : xs.length ≤ 1000 := by
  have := congrArg List.length h
  rw [List.length_map] at this
  rw [this]
  exact Nat.le_trans (List.length_filter_le _ _) hz
theorem ints_snoc {vs : List Value} {ns : List Int} (h : IntsAre vs ns) {i : Int} {t : Tok} : IntsAre (vs ++ [.int i t]) (ns ++ [i]) := by
  induction h with
  | nil => exact .cons _ _ .nil
  | cons _ _ _ ih => exact .cons _ _ ih
theorem cat_strs {prog : Program} {w : World} {A : Around} {E : Value → Shared → Prop} {s : Shared} {h₀ : Heap} {L a b : Addr} {m : Str → Option Value} {news : List (Addr × Obj)} {xs ys : List (Str × Tok)} {n n2 : Nat} {Q : Value → Shared → Prop} (F : Fr h₀ L s.heap m) (N : News h₀ L s.heap news) (ha : (a, listOf (sls xs) n) ∈ news) (hb : (b, listOf (sls ys) n2) ∈ news) (hz : xs.length ≤ 1000) (hz2 : ys.length ≤ 1000)
    (h : ∀ D h', Fr h₀ L h' m → News h₀ L h' ((D, listOf (sls (xs ++ ys)) 0) :: news) → (∀ p ∈ news, p.1 < D) → Q (.ref D) { s with heap := h' }) : wpAny (model prog w) A (binaryOp .Add (.ref a) (.ref b)) Q E s := by
  refine kmk_add_lit F N ⟨_, (N _ ha).1, rfl, _, rfl⟩ ⟨_, (N _ hb).1, rfl, _, rfl⟩ (zs := strValues (xs ++ ys)) ?_ h ?_
  · simp [strValues]
  · simp only [strValues, List.length_map, List.length_append, sizeLine]; omega
local macro_rules | `(tactic| walk_at "my or") => `(tactic| first | assumption | exact Or.inl (by assumption) | (refine Or.inr ?_; walk_at "my or"))
local macro_rules | `(tactic| walk_at "eval Name") => `(tactic| (k_here; (with_reducible show wpAny _ _ (eval (PySem.Expr.Name _ _) (compEnvC _ _ _ _)) _ _ _); k_dflt (first
  | (refine' nameC_L ?F ?v ?_ ?a ?b ?d; (case F => k_asm); (case a => rfl); (case b => rfl); (case d => decide); (case v => rfl); k_whole)
  | (refine' nameC_F ?N ?c ?m ?e ?_ ?a ?b ?d ?f; (case N => k_asm); (case c => rfl); (case m => k_mem); (case e => k_asm); (case a => rfl); (case b => rfl); (case d => decide); (case f => decide); k_whole)
  | (refine' nameC_C ?N ?c ?m ?e ?_ ?a ?b ?d; (case N => k_asm); (case c => rfl); (case m => k_mem); (case e => k_asm); (case a => rfl); (case b => rfl); (case d => decide); k_whole)
  | (refine' nameC_G ?F ?X ?T ?e ?_ ?g ?a ?b ?d; (case F => k_asm); (case X => k_asm); (case T => k_asm); (case g => rfl); (case a => rfl); (case b => rfl); (case d => decide); (case e => k_is); k_whole)
  | (refine' nameC_B ?F ?X ?T ?e ?hv ?hn ?_ ?g ?bb ?a ?b ?d; (case F => k_asm); (case X => k_asm); (case T => k_asm); (case g => rfl); (case bb => rfl); (case a => rfl); (case b => rfl); (case d => decide); (case e => k_is); (case hv => rfl); (case hn => decide); k_whole))))
local macro_rules | `(tactic| walk_at "storeName") => `(tactic| (k_here; (with_reducible show wpAny _ _ (storeName (compEnvC _ _ _ _) _ _) _ _ _); k_dflt (refine' storeC_L ?F ?N ?_ ?a ?b; (case F => k_asm); (case N => k_asm); (case a => rfl); (case b => rfl); k_whole; intro h' F' N'; (try k_sweep))))
local macro_rules | `(tactic| walk_at "call builtin:list.append") => `(tactic| (k_here; (with_reducible show wpAny _ _ (call (Value.builtin _) [Value.ref _, Value.ref _]) _ _ _); k_dflt (refine' append_ref ?k1 ?k2 ?k3 ?k4 ?_; (case k1 => k_asm); (case k2 => k_asm); (case k3 => k_upd); (case k4 => omega); k_whole); intro h' F' N'; (try k_sweep)))
local macro_rules | `(tactic| walk_at "my item0") => `(tactic| (refine tail_any (IsL.isList (News.get (by k_asm) (by k_mem))).typeIs slot_list_getitem.lookup (wpAny_getItem_list (IsL.isList (News.get (by k_asm) (by k_mem))) (by decide) (by decide) rfl ?_) (by with_unfolding_all rfl)))
local macro_rules | `(tactic| walk_at "subscriptTail") => `(tactic| (k_here; (with_reducible show wpAny _ _ (subscriptTail _ _ (Value.ref _) (Value.int _ _)) _ _ _); k_dflt (walk_at "my item0")))
local macro_rules | `(tactic| walk_at "binaryOp Add ref ref") => `(tactic| (k_here; k_dflt (refine cat_strs (by k_asm) (by k_asm) (by k_mem) (by k_mem) (by assumption) (by assumption) ?_); intro D' h' F' N' l1; (try k_lt l1); (try k_sweep)))
local macro_rules | `(tactic| walk_at "compareOp NotEq ref ref") => `(tactic| (k_here; (with_reducible show wpAny _ _ (compareOp CmpOp.NotEq (Value.ref _) (Value.ref _)) _ _ _); k_dflt (refine ne_nil_strs (IsL.isList (News.get (by k_asm) (by k_mem))) (IsL.isList (News.get (by k_asm) (by k_mem))) (by assumption) (by ke_room) ?_)))
local macro_rules | `(tactic| walk_at "my side") => `(tactic| ((case ho => k_is); (case hcd => k_is); (case hroom => decide); (case hkind => rfl); (case hnd => decide); (case hco => rfl); (case hgen => rfl); (case hk => rfl)))
local macro_rules | `(tactic| walk_at "call ref") => `(tactic| (k_here; refine Stop.intro ?_))
local macro_rules | `(tactic| walk_at "exec For Tuple Name cons nil") => `(tactic| (k_here; refine Stop.intro ?_))
local macro_rules | `(tactic| walk_at "pyIter ref") => `(tactic| (k_here; refine Stop.intro ?_))
local macro_rules | `(tactic| walk_at "exec Assign cons ListComp") => `(tactic| (k_here; refine Stop.intro ?_))
local macro_rules | `(tactic| walk_at "eval ListComp") => `(tactic| (k_here; refine toks_gen ?_; intro tk'; (try dsimp only); refine Stop.intro ?_))
/-- what holds at the head of _law_due's loop -/
inductive DueI (L tA dA ma da : Addr) (rows : List Row) (ms ds : List (Str × Tok)) (i : Nat) (m' : Str → Option Value) (news' : Led) : Prop
  | mk (tl : List (Str × Int)) (ts : List Addr) (outs : List (Row × Int)) (bs : List Addr) (n1 n2 : Nat) (om op : Obj) (ext : Led) (e : news' = (tA, listOf (refs ts) n1) :: (dA, listOf (refs bs) n2) :: (L + 1 + 1, om) :: (L + 1, op) :: ext) (hvm : ∃ vm, om.data = .cell vm) (hvp : ∃ vp, op.data = .cell vp)
      (e1 : m' (Str.ofString "told") = some (.ref tA)) (e2 : m' (Str.ofString "due") = some (.ref dA)) (e3 : m' (Str.ofString "mods") = some (.ref ma)) (e4 : m' (Str.ofString "folders") = some (.ref da))
      (hts : Fa (In2 ext) ts tl) (hbs : Fa (In4 ext) bs outs) (hst : (tl, outs) = (rows.take i).foldl (dueStep (ms.map (·.1)) (ds.map (·.1))) ([], [])) (hl1 : ts.length ≤ i) (hl2 : bs.length ≤ i) (off : OwnOff ext [tA, dA, L + 1 + 1, L + 1]) : DueI L tA dA ma da rows ms ds i m' news'
section
variable {w : World} {b₀ : Heap} {mean : ExcName → Option Value} {mg mb : Str → Option Value} {A : Around} {s : Shared}
set_option pp.deepTerms false
set_option pp.deepTerms.threshold 6
theorem due_ct {ra ma da : Addr} {as : List Addr} {rows : List Row} {ms ds : List (Str × Tok)} {Q : Value → Shared → Prop} (W : Wd w b₀ mean mg mb) (stb : b₀.StaysIn s.heap) (H : Room A 8)
    (hr : s.heap.IsList ra (refs as)) (ha : Fa (Row3 s.heap) as rows) (hm : s.heap.IsList ma (sls ms)) (hd' : s.heap.IsList da (sls ds)) (hz : as.length ≤ 50) (hmz : ms.length ≤ 50) (hdz : ds.length ≤ 50)
    (hml : ∀ m ∈ ms, m.1.length ≤ 1000) (hdl : ∀ d ∈ ds, d.1.length ≤ 1000) (hrl : ∀ r ∈ rows, r.2.1.length ≤ 1000 ∧ r.2.2.length ≤ 1000)
    (hmo : ∀ m ∈ ms, PyData.strOk m.1 = true) (hdo : ∀ d ∈ ds, PyData.strOk d.1 = true)
    (ret : ∀ h' tk' D bs n ext, s.heap.StaysIn h' → h'.get? D = some (listOf (refs bs) n) → (∀ p ∈ ext, h'.get? p.1 = some p.2) → Fa (In4 ext) bs (rows.foldl (dueStep (ms.map (·.1)) (ds.map (·.1))) ([], [])).2 → Q (.ref D) { s with heap := h', toks := tk' }) :
    wpAny (model PySem.Challenge.rw_ik0148_01.row.prog w) A (call (.ref 283) [.ref ra, .ref ma, .ref da]) Q no s := by
  refine H.wp ?_
  have KX := W.K
  revert KX
  k_fill
  intro KX
  refine' enterC (binds := [(Str.ofString "row", .ref ra), (Str.ofString "mods", .ref ma), (Str.ofString "folders", .ref da)]) W stb ?ho ?hcd ?hroom ?hbind ?hkind ?hnd ?_ ?hco ?hgen ?hk
  walk_at "my side"
  case hbind => exact BindsTo.of_eq rfl
  intro g L h₁ tk cells hg hL F N Y KG TG
  obtain ⟨o1, o2, rfl, c1, c2⟩ := CellsAre.two Y
  clear KX Y
  k_steps
  refine Stop.here (wpAny_For ?_ (by intro _; rfl))
  k_steps
  rename_i tA _ l1 dA _ l2 _ _ l3 _ _ hE F3 N3
  have N4 : News g L hE [(tA, listOf (refs []) 0), (dA, listOf (refs []) 0), (L + 1 + 1, o1), (L + 1, o2)] := by
    intro p hp
    simp only [List.mem_cons, List.not_mem_nil, or_false] at hp
    rcases hp with rfl | rfl | rfl | rfl
    · exact N3 _ (.tail _ (.tail _ (.head _)))
    · exact N3 _ (.tail _ (.head _))
    · exact N3 _ (.tail _ (.tail _ (.tail _ (.head _))))
    · exact N3 _ (.tail _ (.tail _ (.tail _ (.tail _ (.head _)))))
  clear N3
  refine Stop.here (iter_list (vs := refs as) rfl (DueI L tA dA ma da rows ms ds)
    F3 N4 (by subst hg; exact F3.lst hr) ⟨[], [], [], [], 0, 0, o1, o2, [], rfl, ⟨_, c1⟩, ⟨_, c2⟩, rfl, rfl, rfl, rfl, .nil, .nil, rfl, Nat.le_refl _, Nat.le_refl _, fun _ h => nomatch h⟩ ?_ ?_ ?_)
  · rintro i m' news' h' _ F5 _
    subst hg
    exact F5.lst hr
  · intro it oi i v m' news' h' tk' hit hni hv hDue F5 N5
    refine hideF fun PP hPP => ?_
    revert hit hni F5 N5
    rcases hDue with ⟨tl, ts, outs, bs, n1, n2, om, op, ext, rfl, ⟨vm, hvm⟩, ⟨vp, hvp⟩, e1, e2, e3, e4, hts, hbs, hst, hl1, hl2, off⟩
    intro hit hni F5 N5
    have hi : i < as.length := by
      have := (Array.getElem?_eq_some_iff.mp hv).1
      simpa using this
    obtain rfl : v = .ref as[i] := by
      rw [List.getElem?_toArray, List.getElem?_map, List.getElem?_eq_getElem hi] at hv
      exact (Option.some.inj hv).symm
    obtain ⟨r, hri, t1, t2, t3, n, hrow⟩ := ha.get (List.getElem?_eq_getElem hi)
    obtain ⟨hp1, hp2⟩ := hrl _ (List.mem_of_getElem? hri)
    obtain ⟨rh, rp, rm⟩ := r
    dsimp only at hrow hp1 hp2
    have hnit1 := ltN (hit _ (.head _))
    have hnit2 := ltN (hit _ (.tail _ (.head _)))
    have hnit3 := ltN (hit _ (.tail _ (.tail _ (.head _))))
    have hnit4 := ltN (hit _ (.tail _ (.tail _ (.tail _ (.head _)))))
    dsimp only at hnit1 hnit2 hnit3 hnit4
    have F6 := fr_pins F5 [(Str.ofString "told", .ref tA), (Str.ofString "due", .ref dA), (Str.ofString "mods", .ref ma), (Str.ofString "folders", .ref da)] (by simp only [List.forall_mem_cons]; exact ⟨e1, e2, e3, e4, fun _ h => nomatch h⟩)
    clear F5 F3 N4
    have hnit' : ∀ (new : Led) {x1 x2 x3 x4 : Obj}, (∀ p ∈ new, @Ne Nat p.1 it) → ∀ p ∈ (tA, x1) :: (dA, x2) :: (L + 1 + 1, x3) :: (L + 1, x4) :: (new ++ ext), p.1 ≠ it := by
      intro new x1 x2 x3 x4 hn p hp
      rcases List.mem_cons.mp hp with rfl | hp
      · exact Nat.ne_of_lt hnit1
      rcases List.mem_cons.mp hp with rfl | hp
      · exact Nat.ne_of_lt hnit2
      rcases List.mem_cons.mp hp with rfl | hp
      · exact Nat.ne_of_lt hnit3
      rcases List.mem_cons.mp hp with rfl | hp
      · exact Nat.ne_of_lt hnit4
      rcases List.mem_append.mp hp with hp | hp
      · exact hn p hp
      · exact hni p (.tail _ (.tail _ (.tail _ (.tail _ hp))))
    refine kun_list (items := #[.int rh t1, .str rp t2, .str rm t3]) F6 N5 ⟨_, F6.keep _ _ (hg ▸ hrow), rfl, _, rfl⟩ rfl rfl rfl fun h6 F7 N7 => ?_
    clear F6 N5
    k_steps
    rename_i op' hop h9 om' F8 N8 hom
    have hlen : ts.length = tl.length := hts.length
    refine Stop.here (comp_assign (cl := [(Str.ofString "module", L + 1 + 1)]) (by rfl) (by rfl) (by rfl) (by decide) (by intro _; rfl) ?_)
    k_steps
    have nsz : (refs ts).size = tl.length := by simp [hlen]
    refine Stop.here (comp_blockC (vs := refs ts) rfl (fun j ys => IntsAre ys (dueKnown (tl.take j) rm))
      F8 N8 ⟨_, (N8 _ (.tail _ (.head _))).1, rfl, _, rfl⟩ (by simp; omega) (by decide) rfl .nil ?_ ?_ ?_)
    · intro C m2 h2 _ N9
      exact ⟨_, (N9 _ (.tail _ (.head _))).1, rfl, _, rfl⟩
    · intro C it2 D oL oi2 n3 j ys v m2 h2 tk2 P1 P0 hP1 hP0 lt1 lt2 lt3 a1 a2 a3 hv2 hys F9 N9
      have hj : j < ts.length := by
        have := (Array.getElem?_eq_some_iff.mp hv2).1
        simpa using this
      obtain rfl : v = .ref ts[j] := by
        rw [List.getElem?_toArray, List.getElem?_map, List.getElem?_eq_getElem hj] at hv2
        exact (Option.some.inj hv2).symm
      obtain ⟨k, hkj, u1, u2, n4, hk⟩ := hts.get (List.getElem?_eq_getElem hj)
      obtain ⟨ko, ka⟩ := k
      dsimp only at hk
      refine kun_list (items := #[.str ko u1, .int ka u2]) F9 N9 ⟨_, (N9 _ (.tail _ (.tail _ (.tail _ (.tail _ (.tail _ (.tail _ (.tail _ (.tail _ hk))))))))).1, rfl, _, rfl⟩ rfl rfl rfl fun h3 F10 N10 => ?_
      clear F9 N9 F8 N8
      have hstep : dueKnown (tl.take (j + 1)) rm = dueKnown (tl.take j) rm ++ (if (ko == rm) = true then [ka] else []) := by
        unfold dueKnown
        rw [List.take_add_one, hkj, Option.toList_some, List.filter_append, List.map_append]
        congr 1
        by_cases q : (ko == rm) = true
        · rw [if_pos q]; simp [q]
        · rw [if_neg q]; simp [q]
      k_steps
      all_goals (rename (Fr _ _ _ _) => F11)
      all_goals (rename (News _ _ _ _) => N11)
      · rename ((ko == rm) = true) => q
        refine hP1 _ _ _ _ F11 N11 ?_
        rw [hstep, if_pos q]
        exact ints_snoc hys
      · rename ((ko == rm) = false) => q
        refine hP0 _ _ _ F11 N11 ?_
        rw [hstep, if_neg (by rw [q]; exact Bool.false_ne_true), List.append_nil]
        exact hys
    · intro C D oL n3 ys m2 h2 tk2 lt1 lt2 lt3 a1 a3 hys F9 N9 nsL
      refine comp_postA (L := L) rfl rfl rfl F8 lt1 lt3 a1 a3 F9 N9 nsL fun h3 F10 N10 aD lD => ?_
      clear F8 N8 F9 N9 nsL a1 a3
      rw [nsz, List.take_length] at hys
      simp only [AllNe] at aD
      refine and6 aD fun aD aDa aDb aDc aDd aDe => ?_
      have hrow' : (rows.take (i + 1)).foldl (dueStep (ms.map (·.1)) (ds.map (·.1))) ([], []) = dueStep (ms.map (·.1)) (ds.map (·.1)) (tl, outs) (rh, rp, rm) := by
        rw [List.take_add_one, hri, List.foldl_append, ← hst]; rfl
      cases hkn : dueKnown tl rm with
      | cons v vr =>
        rw [hkn] at hys
        cases hys with
        | cons _ tv hys' =>
          k_steps
          · exfalso
            rename (decide _ = true) => q
            exact absurd q (by simp)
          · rename_i l4 _ hl4 _ F11 N11
            refine hPP _ _ (Stop.here ?_)
            refine ⟨_, _, _, (tA, listOf (refs ts) n1) :: (dA, listOf (refs (bs ++ [l4])) (n2 + 1)) :: (L + 1 + 1, om') :: (L + 1, op') :: (l4, _) :: ext, rfl, F11, news_pick N11 (by walk_at "my sub"), hnit' [_] (by walk_at "my ne1"), tl, ts, outs ++ [((rh, rp, rm), v)], bs ++ [l4], n1, n2 + 1, om', op', _ :: ext, rfl, ⟨_, hom⟩, ⟨_, hop⟩, rfl, rfl, rfl, rfl,
              hts.mono fun a b q => q.more, (hbs.mono fun a b q => q.more).append (.cons ⟨_, _, _, _, _, .head _⟩ .nil), ?_, by omega, ?_, ownOff_cons (by walk_at "my off") off⟩
            · rw [hrow', dueStep]; simp only [hkn]
            · rw [List.length_append]; exact Nat.succ_le_succ hl2
      | nil =>
        rw [hkn] at hys
        cases hys
        k_steps
        have gst : b₀.StaysIn g := hg ▸ stb
        refine Stop.here (comp_eval (cl := [(Str.ofString "module", L + 1 + 1)]) (by rfl) (by rfl) (by decide) (by intro _; rfl) ?_)
        k_steps
        rename (Fr _ _ _ _) => F11
        rename (News _ _ _ _) => N11
        refine Stop.here (comp_blockC (vs := sls ms) rfl (fun j ys => ∃ xs, ys = strValues xs ∧ xs.map (·.1) = ((ms.take j).map (·.1)).filter fun m => belowB rm m) F11 N11 (F11.lst (hg ▸ hm)) (by rw [sls_size]; omega) (by decide) rfl ⟨[], rfl, rfl⟩ ?_ ?_ ?_)
        · intro C m2 h2 Fk _
          exact Fk.lst (hg ▸ hm)
        · intro C it2 D2 oL2 oi2 n4 j ys v m2 h2 tk2 P1 P0 hP1 hP0 lt1 lt2 lt3 a1 a2 a3 hv2 hI F12 N12
          obtain ⟨xs, rfl, hxs⟩ := hI
          have hj : j < ms.length := by
            have := (Array.getElem?_eq_some_iff.mp hv2).1
            rwa [sls_size] at this
          obtain ⟨y, ty, hy⟩ : ∃ y ty, ms[j]? = some (y, ty) := ⟨_, _, List.getElem?_eq_getElem hj⟩
          obtain rfl : v = .str y ty := by
            simp only [strValues, List.getElem?_toArray, List.getElem?_map, hy, Option.map_some, Option.some.injEq] at hv2
            exact hv2.symm
          have hyz : y.length ≤ 1000 := hml _ (List.mem_of_getElem? hy)
          have hstep : ((ms.take (j + 1)).map (·.1)).filter (fun m => belowB rm m) = (((ms.take j).map (·.1)).filter fun m => belowB rm m) ++ (if belowB rm y = true then [y] else []) := by
            rw [List.take_add_one, hy, Option.toList_some, List.map_append, List.filter_append]
            congr 1
            by_cases q : belowB rm y = true
            · rw [if_pos q]; simp [q]
            · rw [if_neg q]; simp [q]
          clear F11 N11
          k_steps
          rename (Fr _ _ _ _) => F13
          rename (News _ _ _ _) => N13
          refine Stop.here (below_K W gst ⟨rfl, Nat.le_of_ble_eq_true rfl, Nat.le_of_ble_eq_true rfl⟩ F13 N13 hp2 hyz fun h3 tk3 F14 N14 => ?_)
          clear F13 N13
          k_steps
          all_goals (rename (Fr _ _ _ _) => F15)
          all_goals (rename (News _ _ _ _) => N15)
          · rename (belowB rm y = true) => q
            refine hP1 _ _ _ _ F15 N15 ⟨xs ++ [(y, ty)], by simp [strValues], ?_⟩
            rw [hstep, if_pos q, List.map_append, hxs]; rfl
          · rename (belowB rm y = false) => q
            refine hP0 _ _ _ F15 N15 ⟨xs, rfl, ?_⟩
            rw [hstep, if_neg (by rw [q]; exact Bool.false_ne_true), List.append_nil, hxs]
        · intro C D2 oL2 n4 ys m2 h2 tk2 lt1 lt2 lt3 a1 a3 hI F12 N12 nsL
          obtain ⟨xs, rfl, hxs⟩ := hI
          rw [sls_size, List.take_length] at hxs
          refine comp_post F11 lt1 lt2 lt3 a1 a3 F12 N12 nsL fun h3 F13 N13 aD2 lD2 => ?_
          clear F11 N11 F12 N12 nsL a1 a3
          simp only [AllNe] at aD2
          refine and8 aD2 fun aD2 aD2a aD2b aD2c aD2d aD2e aD2f aD2g => ?_
          k_steps
          refine Stop.here (comp_eval (cl := [(Str.ofString "place", L + 1)]) (by rfl) (by rfl) (by decide) (by intro _; rfl) ?_)
          k_steps
          rename (Fr _ _ _ _) => F11
          rename (News _ _ _ _) => N11
          refine Stop.here (comp_blockC (vs := sls ds) rfl (fun j ys => ∃ zs, ys = strValues zs ∧ zs.map (·.1) = ((ds.take j).map (·.1)).filter fun d => Txt.slice rp none (some ((d.length : Int) + 1)) == d ++ Str.ofString "/") F11 N11 (F11.lst (hg ▸ hd')) (by rw [sls_size]; omega) (by decide) rfl ⟨[], rfl, rfl⟩ ?_ ?_ ?_)
          · intro C m2 h2 Fk _
            exact Fk.lst (hg ▸ hd')
          · intro C it2 D3 oL2 oi2 n4 j ys v m2 h2 tk2 P1 P0 hP1 hP0 lt1 lt2 lt3 a1 a2 a3 hv2 hI F12 N12
            obtain ⟨zs, rfl, hzs⟩ := hI
            have hj : j < ds.length := by
              have := (Array.getElem?_eq_some_iff.mp hv2).1
              rwa [sls_size] at this
            obtain ⟨y, ty, hy⟩ : ∃ y ty, ds[j]? = some (y, ty) := ⟨_, _, List.getElem?_eq_getElem hj⟩
            obtain rfl : v = .str y ty := by
              simp only [strValues, List.getElem?_toArray, List.getElem?_map, hy, Option.map_some, Option.some.injEq] at hv2
              exact hv2.symm
            have hyz : y.length ≤ 1000 := hdl _ (List.mem_of_getElem? hy)
            have hstep : ((ds.take (j + 1)).map (·.1)).filter (fun d => Txt.slice rp none (some ((d.length : Int) + 1)) == d ++ Str.ofString "/") = (((ds.take j).map (·.1)).filter fun d => Txt.slice rp none (some ((d.length : Int) + 1)) == d ++ Str.ofString "/") ++ (if (Txt.slice rp none (some ((y.length : Int) + 1)) == y ++ Str.ofString "/") = true then [y] else []) := by
              rw [List.take_add_one, hy, Option.toList_some, List.map_append, List.filter_append]
              congr 1
              by_cases q : (Txt.slice rp none (some ((y.length : Int) + 1)) == y ++ Str.ofString "/") = true
              · rw [if_pos q]; simp only [List.map_cons, List.map_nil, List.filter_cons, List.filter_nil, q, if_true]
              · rw [if_neg q]; simp only [List.map_cons, List.map_nil, List.filter_cons, List.filter_nil, q, if_false]; simp
            clear F11 N11
            k_steps
            all_goals (rename (Fr _ _ _ _) => F15)
            all_goals (rename (News _ _ _ _) => N15)
            · rename ((_ == y ++ Str.ofString "/") = true) => q
              refine hP1 _ _ _ _ F15 N15 ⟨zs ++ [(y, ty)], by simp [strValues], ?_⟩
              rw [hstep, if_pos q, List.map_append, hzs]; rfl
            · rename ((_ == y ++ Str.ofString "/") = false) => q
              refine hP0 _ _ _ F15 N15 ⟨zs, rfl, ?_⟩
              rw [hstep, if_neg (by rw [q]; exact Bool.false_ne_true), List.append_nil, hzs]
          · intro C D3 oL2 n4 ys m2 h2 tk2 lt1 lt2 lt3 a1 a3 hI F12 N12 nsL
            obtain ⟨zs, rfl, hzs⟩ := hI
            rw [sls_size, List.take_length] at hzs
            refine comp_post F11 lt1 lt2 lt3 a1 a3 F12 N12 nsL fun h3 F13 N13 aD3 lD3 => ?_
            clear F11 N11 F12 N12 nsL a1 a3
            simp only [AllNe] at aD3
            refine and9 aD3 fun aD3 aD3a aD3b aD3c aD3d aD3e aD3f aD3g aD3h => ?_
            have hxl : xs.length ≤ 1000 := filt_len hxs (by rw [List.length_map]; omega)
            have hzl : zs.length ≤ 1000 := filt_len hzs (by rw [List.length_map]; omega)
            have hok : ∀ x ∈ xs ++ zs, PyData.strOk x.1 = true := by
              intro x hx
              rcases List.mem_append.mp hx with hx | hx
              · have := List.mem_map_of_mem (f := (·.1)) hx
                rw [hxs] at this
                obtain ⟨y, hy, e⟩ := List.mem_map.mp (List.mem_filter.mp this).1
                rw [← e]; exact hmo y hy
              · have := List.mem_map_of_mem (f := (·.1)) hx
                rw [hzs] at this
                obtain ⟨y, hy, e⟩ := List.mem_map.mp (List.mem_filter.mp this).1
                rw [← e]; exact hdo y hy
            have hnew : ∀ V, dueNew (ms.map (·.1)) (ds.map (·.1)) (rh, rp, rm) = V → (tl ++ [(rm, V)], outs ++ [((rh, rp, rm), V)]) = (rows.take (i + 1)).foldl (dueStep (ms.map (·.1)) (ds.map (·.1))) ([], []) := by
              intro V e
              rw [hrow', dueStep]; simp only [hkn, e]
            have hdn : dueNew (ms.map (·.1)) (ds.map (·.1)) (rh, rp, rm) = if (rm == Str.ofString "<string>") = true ∨ (xs ++ zs).isEmpty = false then 1 else 0 := by
              unfold dueNew
              dsimp only
              rw [← hxs, ← hzs, ← List.map_append]
              congr 1
              apply propext
              refine or_congr Iff.rfl ?_
              cases xs ++ zs <;> simp
            k_steps
            all_goals rename_i t4 _ ht4 _ _ _ d4 _ hd4 _ F11 N11
            · rename ((rm == Str.ofString "<string>") = true) => q
              refine hPP _ _ (Stop.here ?_)
              exact ⟨_, _, _, (tA, listOf (refs (ts ++ [t4])) (n1 + 1)) :: (dA, listOf (refs (bs ++ [d4])) (n2 + 1)) :: (L + 1 + 1, om') :: (L + 1, op') :: (d4, _) :: (t4, _) :: ext, rfl, F11, news_pick N11 (by walk_at "my sub"), hnit' [_, _] (by walk_at "my ne1"), tl ++ [(rm, 1)], ts ++ [t4], outs ++ [((rh, rp, rm), 1)], bs ++ [d4], n1 + 1, n2 + 1, om', op', _ :: _ :: ext, rfl, ⟨_, hom⟩, ⟨_, hop⟩, rfl, rfl, rfl, rfl,
                (hts.mono fun a b q => q.more.more).append (.cons ⟨_, _, _, .tail _ (.head _)⟩ .nil), (hbs.mono fun a b q => q.more.more).append (.cons ⟨_, _, _, _, _, .head _⟩ .nil), hnew 1 (by rw [hdn, if_pos (.inl q)]),
                by rw [List.length_append]; exact Nat.succ_le_succ hl1, by rw [List.length_append]; exact Nat.succ_le_succ hl2, ownOff_cons (by walk_at "my off") (ownOff_cons (by walk_at "my off") off)⟩
            · rename ((rm == Str.ofString "<string>") = false) => q
              rename ((xs ++ zs).isEmpty = true) => q2
              refine hPP _ _ (Stop.here ?_)
              exact ⟨_, _, _, (tA, listOf (refs (ts ++ [t4])) (n1 + 1)) :: (dA, listOf (refs (bs ++ [d4])) (n2 + 1)) :: (L + 1 + 1, om') :: (L + 1, op') :: (d4, _) :: (t4, _) :: ext, rfl, F11, news_pick N11 (by walk_at "my sub"), hnit' [_, _] (by walk_at "my ne1"), tl ++ [(rm, 0)], ts ++ [t4], outs ++ [((rh, rp, rm), 0)], bs ++ [d4], n1 + 1, n2 + 1, om', op', _ :: _ :: ext, rfl, ⟨_, hom⟩, ⟨_, hop⟩, rfl, rfl, rfl, rfl,
                (hts.mono fun a b q => q.more.more).append (.cons ⟨_, _, _, .tail _ (.head _)⟩ .nil), (hbs.mono fun a b q => q.more.more).append (.cons ⟨_, _, _, _, _, .head _⟩ .nil), hnew 0 (by rw [hdn, if_neg (by rw [q, q2]; simp)]),
                by rw [List.length_append]; exact Nat.succ_le_succ hl1, by rw [List.length_append]; exact Nat.succ_le_succ hl2, ownOff_cons (by walk_at "my off") (ownOff_cons (by walk_at "my off") off)⟩
            · rename ((xs ++ zs).isEmpty = false) => q2
              refine hPP _ _ (Stop.here ?_)
              exact ⟨_, _, _, (tA, listOf (refs (ts ++ [t4])) (n1 + 1)) :: (dA, listOf (refs (bs ++ [d4])) (n2 + 1)) :: (L + 1 + 1, om') :: (L + 1, op') :: (d4, _) :: (t4, _) :: ext, rfl, F11, news_pick N11 (by walk_at "my sub"), hnit' [_, _] (by walk_at "my ne1"), tl ++ [(rm, 1)], ts ++ [t4], outs ++ [((rh, rp, rm), 1)], bs ++ [d4], n1 + 1, n2 + 1, om', op', _ :: _ :: ext, rfl, ⟨_, hom⟩, ⟨_, hop⟩, rfl, rfl, rfl, rfl,
                (hts.mono fun a b q => q.more.more).append (.cons ⟨_, _, _, .tail _ (.head _)⟩ .nil), (hbs.mono fun a b q => q.more.more).append (.cons ⟨_, _, _, _, _, .head _⟩ .nil), hnew 1 (by rw [hdn, if_pos (.inr q2)]),
                by rw [List.length_append]; exact Nat.succ_le_succ hl1, by rw [List.length_append]; exact Nat.succ_le_succ hl2, ownOff_cons (by walk_at "my off") (ownOff_cons (by walk_at "my off") off)⟩
  · rintro m' news' h' tk' ⟨tl, ts, outs, bs, n1, n2, om, op, ext, rfl, _, _, e1, e2, e3, e4, hts, hbs, hst, hl1, hl2, off⟩ F5 N5
    have F6 := fr_pins F5 [(Str.ofString "due", .ref dA)] (by simp only [List.forall_mem_cons]; exact ⟨e2, fun _ h => nomatch h⟩)
    have hl : (refs as).size = rows.length := by rw [List.size_toArray, List.length_map, ha.length]
    rw [hl, List.take_length] at hst
    clear F5 F3 N4
    k_steps
    rename (Fr _ _ _ _) => F7
    refine ret _ _ _ bs n2 ext (fun b o e => F7.keep b o (hg ▸ e)) (N5 _ (.tail _ (.head _))).1 (fun p hp => (N5 _ (.tail _ (.tail _ (.tail _ (.tail _ hp))))).1) ?_
    rw [← hst]
    exact hbs
end
end TD2
end Mine

namespace Mine
section TLD
open PySem PySem.W PyProof.Rows PySem.Calls
set_option maxRecDepth 100000
set_option maxHeartbeats 8000000
def bodyOf : Stmt → List Stmt
  | .FunctionDef _ _ b _ _ _ _ _ _ _ => b
  | _ => []
def scopeOf : Stmt → Scope
  | .FunctionDef _ _ _ _ _ _ sc _ _ _ => sc
  | _ => { kind := .module, names := [], isGenerator := false, isCoroutine := false, more := [] }
noncomputable def nth : List Stmt → Nat → Stmt
  | [], _ => .Pass ⟨0, 0, 0, 0⟩
  | s :: _, 0 => s
  | _ :: r, n + 1 => nth r n
noncomputable def lawD : Stmt := nth PySem.Challenge.rw_ik0148_01.row.prog.main.body 44
noncomputable def dueD : Stmt := nth PySem.Challenge.rw_ik0148_01.row.prog.main.body 43
noncomputable abbrev lawEnv (L fa : Addr) (cd : Value) : Env := envOfC (Str.ofString "law") (scopeOf lawD) L fa cd
end TLD
end Mine

namespace Mine
section TE1
open PySem PySem.W PyProof.Rows PySem.Calls
set_option maxRecDepth 100000
set_option maxHeartbeats 1000000
set_option pp.deepTerms false
set_option pp.deepTerms.threshold 6
local macro_rules | `(tactic| walk_at "eval Name") => `(tactic| (k_here; (with_reducible show wpAny _ _ (eval (PySem.Expr.Name _ _) (compEnvC _ _ _ _)) _ _ _); k_dflt (first
  | (refine' nameC_L ?F ?v ?_ ?a ?b ?d; (case F => k_asm); (case a => rfl); (case b => rfl); (case d => decide); (case v => rfl); k_whole)
  | (refine' nameC_F ?N ?c ?m ?e ?_ ?a ?b ?d ?f; (case N => k_asm); (case c => rfl); (case m => k_mem); (case e => k_asm); (case a => rfl); (case b => rfl); (case d => decide); (case f => decide); k_whole)
  | (refine' nameC_C ?N ?c ?m ?e ?_ ?a ?b ?d; (case N => k_asm); (case c => rfl); (case m => k_mem); (case e => k_asm); (case a => rfl); (case b => rfl); (case d => decide); k_whole)
  | (refine' nameC_G ?F ?X ?T ?e ?_ ?g ?a ?b ?d; (case F => k_asm); (case X => k_asm); (case T => k_asm); (case g => rfl); (case a => rfl); (case b => rfl); (case d => decide); (case e => k_is); k_whole)
  | (refine' nameC_B ?F ?X ?T ?e ?hv ?hn ?_ ?g ?bb ?a ?b ?d; (case F => k_asm); (case X => k_asm); (case T => k_asm); (case g => rfl); (case bb => rfl); (case a => rfl); (case b => rfl); (case d => decide); (case e => k_is); (case hv => rfl); (case hn => decide); k_whole))))
local macro_rules | `(tactic| walk_at "storeName") => `(tactic| (k_here; (with_reducible show wpAny _ _ (storeName (compEnvC _ _ _ _) _ _) _ _ _); k_dflt (refine' storeC_L ?F ?N ?_ ?a ?b; (case F => k_asm); (case N => k_asm); (case a => rfl); (case b => rfl); k_whole; intro h' F' N'; (try k_sweep))))
local macro_rules | `(tactic| walk_at "my tail") => `(tactic| first | assumption | (refine List.Mem.tail _ ?_; walk_at "my tail"))
local macro_rules | `(tactic| walk_at "my sub") => `(tactic| first | exact List.forall_mem_nil _ | (refine List.forall_mem_cons.mpr ⟨by k_mem, ?_⟩; walk_at "my sub") | (intro p hp; walk_at "my tail"))
local macro_rules | `(tactic| walk_at "call ref") => `(tactic| (k_here; refine Stop.intro ?_))
local macro_rules | `(tactic| walk_at "eval ListComp") => `(tactic| (k_here; refine toks_gen ?_; intro tk'; (try dsimp only); refine Stop.intro ?_))
def FileIn (news : Led) (a : Addr) (v : Int) : Prop := ∃ P xs ta tb, (a, listOf #[.int (-((v.fdiv 128).fmod 10)) ta, .ref P, .int ((v.fdiv 16).fmod 8) tb] 0) ∈ news ∧ (P, listOf (sls xs) 0) ∈ news ∧ xs.map (·.1) = pcs v
def srcOf (ns : List Int) : List Int := ns.take 6 ++ [128, 644, 445, 162, 308, 277, 68, 609, 1396]
theorem ints_get {vs : List Value} {ns : List Int} (h : IntsAre vs ns) : ∀ {i : Nat} {v : Value}, vs[i]? = some v → ∃ n t, ns[i]? = some n ∧ v = .int n t := by
  induction h with
  | nil => intro i v e; simp at e
  | cons n t _ ih =>
    intro i v e
    cases i with
    | zero => rw [List.getElem?_cons_zero] at e ⊢; cases e; exact ⟨n, t, rfl, rfl⟩
    | succ i => rw [List.getElem?_cons_succ] at e ⊢; exact ih e
theorem file_K {w : World} {b₀ : Heap} {mean : ExcName → Option Value} {mg mb : Str → Option Value} {A : Around} {s : Shared} {g : Heap} {L : Addr} {m : Str → Option Value} {news : Led} {v : Int} {t : Tok} {Q : Value → Shared → Prop} (W : Wd w b₀ mean mg mb) (gst : b₀.StaysIn g) (H : Room A 2)
    (F : Fr g L s.heap m) (N : News g L s.heap news)
    (ret : ∀ h' tk' R P xs ta tb, Fr g L h' m → News g L h' ((R, listOf #[.int (-((v.fdiv 128).fmod 10)) ta, .ref P, .int ((v.fdiv 16).fmod 8) tb] 0) :: (P, listOf (sls xs) 0) :: news) → (∀ b o, s.heap.get? b = some o → b ≠ R ∧ b ≠ P) → xs.map (·.1) = pcs v → Q (.ref R) { s with heap := h', toks := tk' }) :
    wpAny (model PySem.Challenge.rw_ik0148_01.row.prog w) A (call (.ref 264) [.int v t]) Q no s :=
  file_ct W (fun b o e => F.keep b o (gst b o e)) H fun h' tk' R P xs ta tb k eR eP nR nP d hx => by
    refine ret h' tk' R P xs ta tb (fr_stay F k) ?_ (fun b o e => ⟨fun q => (by rw [q, nR] at e; cases e), fun q => (by rw [q, nP] at e; cases e)⟩) hx
    have N1 := news_add F N k nP eP
    intro p hp
    rcases List.mem_cons.mp hp with rfl | hp
    · refine ⟨eR, fun q => ?_, ?_⟩
      · obtain ⟨oL, es, ep, hL, r⟩ := F.ns
        rw [← q, nR] at hL; cases hL
      · cases x : g.get? R with
        | none => rfl
        | some o => have := F.keep _ _ x; rw [nR] at this; cases this
    · exact N1 p hp
section
variable {w : World} {b₀ : Heap} {mean : ExcName → Option Value} {mg mb : Str → Option Value} {A : Around} {s : Shared} {L fa : Addr} {cd : Value} {m : Str → Option Value} {Q : Flow → Shared → Prop}
theorem law_S1 {news : Led} {sl : Addr} {vs : List Value} {ns : List Int} (W : Wd w b₀ mean mg mb) (H : Room A 20) (F : Fr b₀ L s.heap m) (N : News b₀ L s.heap news) (e1 : m (Str.ofString "script") = some (.ref sl)) (hs : b₀.IsList sl vs.toArray) (hI : IntsAre vs ns) (hz : ns.length ≤ 63)
    (ret : ∀ h' tk' m' fA fs n ext t, Fr b₀ L h' m' → m' (Str.ofString "files") = some (.ref fA) → m' (Str.ofString "whole") = some (.int ((ns.take 6).sum + 5) t) → News b₀ L h' ((fA, listOf (refs fs) n) :: (ext ++ news)) → Fa (FileIn ext) fs (srcOf ns) → Q .next { s with heap := h', toks := tk' }) :
   wpAny (model PySem.Challenge.rw_ik0148_01.row.prog w) A (exec (nth (bodyOf lawD) 1) (lawEnv L fa cd)) Q no s := by
  refine H.wp ?_
  have KX := W.K
  have TX := W.T
  revert KX
  k_fill
  intro KX
  conv =>
    arg 3
    arg 1
    whnf
  unfold lawEnv
  conv =>
    arg 3
    arg 2
    arg 2
    whnf
  have F2 := fr_pins F [(Str.ofString "script", Value.ref sl)] (by simp only [List.forall_mem_cons]; exact ⟨e1, fun _ h => nomatch h⟩)
  clear F
  k_steps
  refine Stop.here (comp_eval (cl := []) (by rfl) (by rfl) (by decide) (by intro _; rfl) ?_)
  k_steps
  rename_i l9 D1 ws h9 F9 N9 hI9 l10
  have hI10 : IntsAre ws (srcOf ns) := hI9
  have hwz : ws.length ≤ 100 := by
    have := hI10.length
    rw [this]; simp [srcOf]; omega
  refine Stop.here (comp_block (vs := ws.toArray) rfl (fun i ys news' => ∃ fs ext, ys = fs.map Value.ref ∧ news' = ext ++ _ ∧ Fa (FileIn ext) fs ((srcOf ns).take i)) F9 N9 ⟨_, (N9 _ (.head _)).1, rfl, _, rfl⟩ (by simp; omega) (by decide) rfl ⟨[], [], rfl, rfl, .nil⟩ ?_ ?_ ?_)
  · rintro C i m' ys news' h' ⟨fs, ext, rfl, rfl, _⟩ _ N'
    exact ⟨_, (N' _ (List.mem_append_right _ (.head _))).1, rfl, _, rfl⟩
  · intro C it D oL oi n i ys v m' news' h' tk hlt lt1 lt2 lt3 a1 a2 a3 hv hI F' N'
    refine hideC fun P1 P0 hP1 hP0 => ?_
    obtain ⟨fs, ext, rfl, rfl, hfs⟩ := hI
    rw [List.getElem?_toArray] at hv
    obtain ⟨x, tx, hx, rfl⟩ := ints_get hI10 hv
    clear F9 N9
    k_steps
    rename (Fr _ _ _ _) => F10
    rename (News _ _ _ _) => N10
    refine Stop.here (file_K W (fun _ _ e => e) ⟨rfl, Nat.le_of_ble_eq_true rfl, Nat.le_of_ble_eq_true rfl⟩ F10 N10 fun h2 tk2 R P xs ta tb F11 N11 hfr hxs => ?_)
    have qL := hfr _ _ (N10 _ (.head _)).1
    have qI := hfr _ _ (N10 _ (.tail _ (.head _))).1
    have qD := hfr _ _ (N10 _ (.tail _ (.tail _ (.head _)))).1
    refine hP1 _ _ (Stop.here ?_)
    refine (cend (news := (R, listOf #[.int (-((x.fdiv 128).fmod 10)) ta, .ref P, .int ((x.fdiv 16).fmod 8) tb] 0) :: (P, listOf (sls xs) 0) :: (ext ++ _)) F11 (fun p hp => ?_) ⟨Ne.symm qL.1, Ne.symm qL.2, a1⟩ ⟨Ne.symm qI.1, Ne.symm qI.2, a2⟩ ⟨Ne.symm qD.1, Ne.symm qD.2, a3⟩ ⟨fs ++ [R], (R, listOf #[.int (-((x.fdiv 128).fmod 10)) ta, .ref P, .int ((x.fdiv 16).fmod 8) tb] 0) :: (P, listOf (sls xs) 0) :: ext, by simp, rfl, ?_⟩)
    · rcases List.mem_cons.mp hp with rfl | hp
      · exact N11 _ (.tail _ (.tail _ (.head _)))
      rcases List.mem_cons.mp hp with rfl | hp
      · exact N11 _ (.tail _ (.tail _ (.tail _ (.head _))))
      rcases List.mem_cons.mp hp with rfl | hp
      · exact N11 _ (.tail _ (.tail _ (.tail _ (.tail _ (.head _)))))
      rcases List.mem_cons.mp hp with rfl | hp
      · exact N11 _ (.head _)
      rcases List.mem_cons.mp hp with rfl | hp
      · exact N11 _ (.tail _ (.head _))
      · exact N11 _ (.tail _ (.tail _ (.tail _ (.tail _ (.tail _ hp)))))
    · rw [List.take_add_one, hx]
      exact (hfs.mono fun a b ⟨P, xs, ta, tb, h1, h2, h3⟩ => ⟨P, xs, ta, tb, .tail _ (.tail _ h1), .tail _ (.tail _ h2), h3⟩).append (.cons ⟨P, xs, ta, tb, .head _, .tail _ (.head _), hxs⟩ .nil)
  · rintro C D oL n ys m' news' h' tk lt1 lt2 lt3 gL a1 a3 ⟨fs, ext, rfl, rfl, hfs⟩ F' N' nsL
    refine comp_post F9 lt1 lt2 lt3 a1 a3 F' N' nsL fun h3 F10 N10 aD lD => ?_
    clear F9 N9 F' N' nsL a1
    k_steps
    rename (Fr _ _ _ _) => F11
    rename (News _ _ _ _) => N11
    have e : ws.toArray.size = (srcOf ns).length := by rw [List.size_toArray, hI10.length]
    rw [e, List.take_length] at hfs
    refine ret _ _ _ D fs n ext _ F11 rfl rfl (fun p hp => ?_) hfs
    rcases List.mem_cons.mp hp with rfl | hp
    · exact N11 _ (.tail _ (.tail _ (.head _)))
    refine N11 _ (.tail _ (.tail _ (.tail _ ?_)))
    rcases List.mem_append.mp hp with hp | hp
    · exact List.mem_append_left _ hp
    · exact List.mem_append_right _ (.tail _ (.tail _ (.tail _ hp)))
end
end TE1
end Mine

namespace Mine
section TTB
open PySem PySem.W PyProof.Rows PySem.Calls
set_option maxRecDepth 100000
set_option maxHeartbeats 1000000
theorem cps_inj {a b : Str} (h : a.cps.toList = b.cps.toList) : a = b := by
  obtain ⟨a⟩ := a
  obtain ⟨b⟩ := b
  congr 1
  exact Array.toList_inj.mp h
theorem slash_is : Str.ofString "/" = ⟨#[47]⟩ := by decide
theorem slash_cps : (Str.ofString "/").cps.toList = [47] := by decide
theorem len_cps (x : Str) : x.length = x.cps.toList.length := by simp [Str.length]
theorem join_one (x : Str) : Txt.join (Str.ofString "/") [x] = x := by
  show Builtin.Str.glued _ _ = _
  rw [StrLaws.glued_eq_join]; rfl
theorem join_two (x y : Str) (r : List Str) : Txt.join (Str.ofString "/") (x :: y :: r) = x ++ Str.ofString "/" ++ Txt.join (Str.ofString "/") (y :: r) := by
  show Builtin.Str.glued _ _ = _ ++ Builtin.Str.glued _ _
  rw [StrLaws.glued_eq_join, StrLaws.glued_eq_join]; rfl
theorem join_cps (x y : Str) (r : List Str) : (Txt.join (Str.ofString "/") (x :: y :: r)).cps.toList = x.cps.toList ++ 47 :: (Txt.join (Str.ofString "/") (y :: r)).cps.toList := by
  rw [join_two, cps_append, cps_append, slash_cps, List.append_assoc]; rfl
theorem parted {c : Nat} : ∀ {a b u v : List Nat}, c ∉ a → c ∉ b → a ++ c :: u = b ++ c :: v → a = b ∧ u = v
  | [], [], _, _, _, _, h => ⟨rfl, (List.cons.inj h).2⟩
  | [], y :: b, _, _, _, hb, h => absurd (by rw [(List.cons.inj h).1]; exact .head _) hb
  | x :: a, [], _, _, ha, _, h => absurd (by rw [← (List.cons.inj h).1]; exact .head _) ha
  | x :: a, y :: b, u, v, ha, hb, h => by
    obtain ⟨h1, h2⟩ := List.cons.inj h
    obtain ⟨h3, h4⟩ := parted (fun q => ha (.tail _ q)) (fun q => hb (.tail _ q)) h2
    exact ⟨by rw [h1, h3], h4⟩
theorem join_inj : ∀ {xs ys : List Str}, xs ≠ [] → ys ≠ [] → (∀ x ∈ xs, 47 ∉ x.cps.toList) → (∀ y ∈ ys, 47 ∉ y.cps.toList) → Txt.join (Str.ofString "/") xs = Txt.join (Str.ofString "/") ys → xs = ys
  | [], _, h, _, _, _, _ => absurd rfl h
  | _ :: _, [], _, h, _, _, _ => absurd rfl h
  | [x], [y], _, _, _, _, h => by rw [join_one, join_one] at h; rw [h]
  | [x], y :: y2 :: r, _, _, hx, _, h => by
    rw [join_one] at h
    refine absurd ?_ (hx x (.head _))
    rw [h, join_cps]
    exact List.mem_append_right _ (.head _)
  | x :: x2 :: r, [y], _, _, _, hy, h => by
    rw [join_one] at h
    refine absurd ?_ (hy y (.head _))
    rw [← h, join_cps]
    exact List.mem_append_right _ (.head _)
  | x :: x2 :: r, y :: y2 :: r', _, _, hx, hy, h => by
    have h1 := congrArg (fun z : Str => z.cps.toList) h
    rw [join_cps, join_cps] at h1
    obtain ⟨h2, h3⟩ := parted (hx x (.head _)) (hy y (.head _)) h1
    rw [cps_inj h2, join_inj (List.cons_ne_nil _ _) (List.cons_ne_nil _ _) (fun z hz => hx z (.tail _ hz)) (fun z hz => hy z (.tail _ hz)) (cps_inj h3)]
theorem split_join {xs : List Str} (h0 : xs ≠ []) (hx : ∀ x ∈ xs, 47 ∉ x.cps.toList) : Txt.split (Txt.join (Str.ofString "/") xs) (Str.ofString "/") = xs := by
  have h1 : Txt.join (Str.ofString "/") (Txt.split (Txt.join (Str.ofString "/") xs) (Str.ofString "/")) = Txt.join (Str.ofString "/") xs := by
    show Builtin.Str.glued _ _ = _
    rw [StrLaws.glued_eq_join]
    exact StrLaws.join_split _ _
  refine join_inj (fun e => ?_) h0 (fun y hy => ?_) hx h1
  · have := split_pos (Txt.join (Str.ofString "/") xs) (Str.ofString "/")
    rw [e] at this; exact absurd this (by decide)
  · rw [slash_is] at hy
    exact StrLaws.split_free _ 47 y hy
theorem start_slash (x : Str) : Txt.startswith x (Str.ofString "/") = (x.cps.toList.take 1 == [47]) := by
  unfold Txt.startswith
  rw [StrLaws.subAt_eq, slash_len, slash_cps, List.drop_zero]
  by_cases h : 0 + 1 ≤ x.length
  · rw [decide_eq_true h, Bool.true_and]
  · rw [decide_eq_false h, Bool.false_and]
    have : x.cps.toList = [] := List.length_eq_zero_iff.mp (by rw [← len_cps]; omega)
    rw [this]; rfl
theorem from_one (x : Str) : Txt.slice (Str.ofString "/" ++ x) (some 1) none = x := by
  show StrLaws.sliceText _ _ _ = _
  have hl : (Str.ofString "/" ++ x).cps.toList = 47 :: x.cps.toList := by rw [cps_append, slash_cps]; rfl
  rw [StrLaws.sliceText_from (by rw [hl]; simp only [List.length_cons]; omega), hl]
  apply cps_inj
  show (List.take _ (List.drop (Int.toNat 1) (47 :: x.cps.toList))).toArray.toList = _
  rw [List.toList_toArray, show Int.toNat 1 = 1 from rfl, List.drop_succ_cons, List.drop_zero]
  apply List.take_of_length_le
  simp only [List.length_cons]; omega
theorem to_one (x : Str) : Txt.slice (Str.ofString "/" ++ x) none (some 1) = Str.ofString "/" := by
  show StrLaws.sliceText _ _ _ = _
  have hl : (Str.ofString "/" ++ x).cps.toList = 47 :: x.cps.toList := by rw [cps_append, slash_cps]; rfl
  rw [StrLaws.sliceText_to (by rw [hl]; simp only [List.length_cons]; omega), hl]
  apply cps_inj
  rw [slash_cps]; rfl
theorem one_two {x : Str} (h0 : 1 ≤ x.length) (h : x.cps.toList.take 1 ≠ [47]) : (Txt.slice (Str.ofString "/" ++ x) (some 1) (some 2) != Str.ofString "/") = true := by
  have hl : (Str.ofString "/" ++ x).cps.toList = 47 :: x.cps.toList := by rw [cps_append, slash_cps]; rfl
  have e : Txt.slice (Str.ofString "/" ++ x) (some 1) (some 2) = ⟨(x.cps.toList.take 1).toArray⟩ := by
    show StrLaws.sliceText _ _ _ = _
    rw [StrLaws.sliceText_plain (by rw [hl]; simp only [List.length_cons]; rw [len_cps] at h0; omega), hl]
    rfl
  rw [e, bne_iff_ne]
  intro q
  have := congrArg (fun z : Str => z.cps.toList) q
  dsimp only at this
  rw [slash_cps, List.toList_toArray] at this
  exact h this
/-- what stands behind the last slash -/
theorem base_join (cs : List Str) {nm : Str} (hn : 47 ∉ nm.cps.toList) : Txt.slice (Str.ofString "/" ++ Txt.join (Str.ofString "/") (cs ++ [nm])) (some (Txt.rfind (Str.ofString "/" ++ Txt.join (Str.ofString "/") (cs ++ [nm])) (Str.ofString "/") + 1)) none = nm := by
  obtain ⟨A, hA⟩ : ∃ A, (Str.ofString "/" ++ Txt.join (Str.ofString "/") (cs ++ [nm])).cps.toList = A ++ 47 :: nm.cps.toList := by
    rw [cps_append, slash_cps]
    induction cs with
    | nil => exact ⟨[], by rw [List.nil_append, join_one]; rfl⟩
    | cons c r ih =>
      obtain ⟨A, hA⟩ := ih
      obtain ⟨y, r', e⟩ : ∃ y r', r ++ [nm] = y :: r' := by
        cases r with
        | nil => exact ⟨_, _, rfl⟩
        | cons y r' => exact ⟨_, _, rfl⟩
      refine ⟨47 :: c.cps.toList ++ A, ?_⟩
      have ec : (c :: r) ++ [nm] = c :: y :: r' := by rw [List.cons_append, e]
      rw [ec, join_cps, ← e]
      show [47] ++ (c.cps.toList ++ ([47] ++ (Txt.join (Str.ofString "/") (r ++ [nm])).cps.toList)) = _
      rw [hA]; simp
  generalize Str.ofString "/" ++ Txt.join (Str.ofString "/") (cs ++ [nm]) = X at *
  have hat : ∀ i, StrLaws.At X ⟨#[47]⟩ X.length i ↔ X.cps.toList[i]? = some 47 := fun i => StrLaws.subAt_one X 47 i
  have hlen : X.length = A.length + 1 + nm.cps.toList.length := by rw [len_cps, hA]; simp; omega
  have hr : Txt.rfind X (Str.ofString "/") = (A.length : Int) := by
    unfold Txt.rfind
    rw [slash_is]
    have here : StrLaws.At X ⟨#[47]⟩ X.length A.length := (hat _).mpr (by rw [hA]; simp)
    rcases StrLaws.last_spec X ⟨#[47]⟩ with ⟨_, h⟩ | ⟨i, e, h1, h2⟩
    · exact absurd here (h _)
    · rw [e]
      have : i = A.length := by
        rcases Nat.lt_trichotomy i A.length with q | q | q
        · exact absurd here (h2 _ q)
        · exact q
        · exfalso
          have z := (hat i).mp h1
          rw [hA, List.getElem?_append_right (by omega)] at z
          obtain ⟨k, hk⟩ : ∃ k, i - A.length = k + 1 := ⟨i - A.length - 1, by omega⟩
          rw [hk, List.getElem?_cons_succ] at z
          exact hn (List.mem_of_getElem? z)
      rw [this]
  rw [hr]
  show StrLaws.sliceText _ _ _ = _
  rw [StrLaws.sliceText_from (by rw [hA]; simp only [List.length_append, List.length_cons]; omega), hA]
  apply cps_inj
  rw [List.toList_toArray, show ((A.length : Int) + 1).toNat = A.length + 1 by omega]
  rw [show A ++ 47 :: nm.cps.toList = (A ++ [47]) ++ nm.cps.toList by simp, show A.length + 1 = (A ++ [47]).length by simp, List.drop_left]
  apply List.take_of_length_le
  simp only [List.length_append, List.length_cons, List.length_nil]; omega
theorem strOk_append (a b : Str) : PyData.strOk (a ++ b) = (PyData.strOk a && PyData.strOk b) := by
  unfold PyData.strOk
  rw [← Array.all_toList, ← Array.all_toList, ← Array.all_toList, cps_append, List.all_append]
theorem strOk_join : ∀ {xs : List Str}, xs ≠ [] → (∀ x ∈ xs, PyData.strOk x = true) → PyData.strOk (Txt.join (Str.ofString "/") xs) = true
  | [], h, _ => absurd rfl h
  | [x], _, h => by rw [join_one]; exact h x (.head _)
  | x :: y :: r, _, h => by
    rw [join_two, strOk_append, strOk_append, h x (.head _), strOk_join (List.cons_ne_nil _ _) fun z hz => h z (.tail _ hz)]
    decide +kernel
/-- the pieces by their numbers -/
def pieceL (b i j : Nat) : List Str := (if b = 1 then [Str.ofString ""] else []) ++ [pl4.getD i (Str.ofString ""), pl4.getD j (Str.ofString "")]
def nameL (k : Nat) : Str := (names8.map (·.1)).getD k (Str.ofString "")
def modL (k : Nat) : Str := (names8.map (·.2)).getD k (Str.ofString "")
/-- the path that is joined to /r -/
def joined (ps : List Str) (nm : Str) : Str := let x := Txt.join (Str.ofString "/") (ps ++ [nm]); if Txt.startswith x (Str.ofString "/") = true then x else Str.ofString "/r" ++ (Str.ofString "/" ++ x)
def seg (b i j : Nat) : List Str := (if b = 1 then [] else [Str.ofString "r"]) ++ [pl4.getD i (Str.ofString ""), pl4.getD j (Str.ofString "")]
def midL (b i j : Nat) : List Str := (pieceL b i j).foldl pstep (if (pieceL b i j).headD (Str.ofString "") = Str.ofString "" then [] else [Str.ofString "r"])
def five : List Str := [Str.ofString "r", Str.ofString "a", Str.ofString "b", Str.ofString "..", Str.ofString "."]
theorem five_facts : ∀ y ∈ five, 47 ∉ y.cps.toList ∧ y.length ≤ 10 ∧ 1 ≤ y.length ∧ PyData.strOk y = true := by decide +kernel
theorem seg_facts' : ∀ b < 2, ∀ i < 4, ∀ j < 4, (seg b i j).foldl nstep [] = midL b i j ∧ (midL b i j).all (fun y => five.contains y) = true ∧ (midL b i j).length ≤ 3 ∧ (seg b i j).all (fun y => five.contains y) = true ∧ (seg b i j).length ≤ 3 := by decide +kernel
theorem five_all {l : List Str} (h : l.all (fun y => five.contains y) = true) : ∀ y ∈ l, y ∈ five := fun y hy => List.contains_iff_mem.mp (List.all_eq_true.mp h y hy)
theorem seg_facts (b : Nat) (hb : b < 2) (i : Nat) (hi : i < 4) (j : Nat) (hj : j < 4) : (seg b i j).foldl nstep [] = midL b i j ∧ (∀ y ∈ midL b i j, y ∈ five) ∧ (midL b i j).length ≤ 3 ∧ (∀ y ∈ seg b i j, y ∈ five) ∧ (seg b i j).length ≤ 3 := by
  obtain ⟨h1, h2, h3, h4, h5⟩ := seg_facts' b hb i hi j hj
  exact ⟨h1, five_all h2, h3, five_all h4, h5⟩
theorem four_facts (i : Nat) (hi : i < 4) : pl4.getD i (Str.ofString "") ∈ five := List.contains_iff_mem.mp ((by decide +kernel : ∀ i < 4, five.contains (pl4.getD i (Str.ofString "")) = true) i hi)
theorem name_facts : ∀ k < 8, 47 ∉ (nameL k).cps.toList ∧ (nameL k).length ≤ 10 ∧ PyData.strOk (nameL k) = true ∧ ¬ (nameL k = Str.ofString "" ∨ nameL k = Str.ofString ".") ∧ nameL k ≠ Str.ofString ".." := by decide +kernel
theorem pieces_small : ∀ b < 2, ∀ i < 4, ∀ j < 4, (pieceL b i j).length ≤ 3 ∧ ∀ y ∈ pieceL b i j, y.length ≤ 10 := by decide +kernel
theorem take_one {p : Str} {u : List Nat} (h1 : 47 ∉ p.cps.toList) (h2 : 1 ≤ p.length) : (p.cps.toList ++ u).take 1 ≠ [47] := by
  rw [len_cps] at h2
  cases e : p.cps.toList with
  | nil => rw [e] at h2; exact absurd h2 (by decide)
  | cons c r =>
    intro q
    have : c = 47 := (List.cons.inj q).1
    rw [e, this] at h1
    exact h1 (.head _)
theorem joined_is {b i j : Nat} (hb : b < 2) (hi : i < 4) (hj : j < 4) (nm : Str) : joined (pieceL b i j) nm = Str.ofString "/" ++ Txt.join (Str.ofString "/") (seg b i j ++ [nm]) := by
  have fp := five_facts _ (four_facts i hi)
  generalize hp : pl4.getD i (Str.ofString "") = p at *
  generalize hq : pl4.getD j (Str.ofString "") = q at *
  have hb2 : b = 0 ∨ b = 1 := by omega
  unfold joined
  dsimp only
  rcases hb2 with rfl | rfl
  · have e1 : pieceL 0 i j = [p, q] := by unfold pieceL; rw [hp, hq]; rfl
    have e2 : seg 0 i j = [Str.ofString "r", p, q] := by unfold seg; rw [hp, hq]; rfl
    rw [e1, e2, if_neg]
    · apply cps_inj
      show _ = (Str.ofString "/" ++ Txt.join (Str.ofString "/") (Str.ofString "r" :: p :: ([q] ++ [nm]))).cps.toList
      rw [cps_append, cps_append, cps_append, join_cps, slash_cps, show (Str.ofString "/r").cps.toList = [47, 114] by decide, show (Str.ofString "r").cps.toList = [114] by decide]
      rfl
    · rw [start_slash]
      show ¬ (List.take 1 (Txt.join (Str.ofString "/") (p :: q :: [nm])).cps.toList == [47]) = true
      rw [join_cps, beq_iff_eq]
      exact take_one fp.1 fp.2.2.1
  · have e1 : pieceL 1 i j = [Str.ofString "", p, q] := by unfold pieceL; rw [hp, hq]; rfl
    have e2 : seg 1 i j = [p, q] := by unfold seg; rw [hp, hq]; rfl
    have ee : (Str.ofString "").cps.toList = [] := by decide
    rw [e1, e2, if_pos]
    · apply cps_inj
      show (Txt.join (Str.ofString "/") (Str.ofString "" :: p :: ([q] ++ [nm]))).cps.toList = _
      rw [join_cps, ee, cps_append, slash_cps]
      rfl
    · rw [start_slash]
      show (List.take 1 (Txt.join (Str.ofString "/") (Str.ofString "" :: p :: q :: [nm])).cps.toList == [47]) = true
      rw [join_cps, ee]; rfl
theorem names_small : ∀ k < 8, (nameL k).length ≤ 100 := fun k hk => Nat.le_trans (name_facts k hk).2.1 (by decide)
theorem pcs_at (v : Int) : ∃ b i j, b < 2 ∧ i < 4 ∧ j < 4 ∧ pcs v = pieceL b i j := by
  have h1 := Int.fmod_nonneg_of_pos v (b := 4) (by decide)
  have h2 := Int.fmod_lt_of_pos v (b := 4) (by decide)
  have h3 := Int.fmod_nonneg_of_pos (v.fdiv 4) (b := 4) (by decide)
  have h4 := Int.fmod_lt_of_pos (v.fdiv 4) (b := 4) (by decide)
  refine ⟨if (v.fdiv 1280).fmod 2 = 1 then 1 else 0, (v.fmod 4).toNat, ((v.fdiv 4).fmod 4).toNat, by split <;> decide, by omega, by omega, ?_⟩
  unfold pcs pieceL
  split <;> rfl
/-- what holds of a file's pieces and name -/
structure Combo (ps : List Str) (nm : Str) : Prop where
  l1 : (Txt.join (Str.ofString "/") (ps ++ [nm])).length ≤ 100
  l2 : (joined ps nm).length ≤ 100
  l3 : ((joined ps nm).length : Int) ≠ 0
  c1 : (Txt.slice (joined ps nm) none (some 1) != Str.ofString "/") = false
  c2 : (Txt.slice (joined ps nm) (some 1) (some 2) != Str.ofString "/") = true
  cs : (Txt.split (Txt.slice (joined ps nm) (some 1) none) (Str.ofString "/")).length ≤ 100
  np : npOf (joined ps nm) = placeOf ps nm
  l4 : (placeOf ps nm).length ≤ 100
  bn : Txt.slice (placeOf ps nm) (some (Txt.rfind (placeOf ps nm) (Str.ofString "/") + 1)) none = nm
  ok : PyData.strOk (placeOf ps nm) = true
theorem join_100 {xs : List Str} (h : ∀ x ∈ xs, x.length ≤ 10) (hl : xs.length ≤ 4) : (Txt.join (Str.ofString "/") xs).length ≤ 44 := by
  have := join_len (sep := Str.ofString "/") h
  rw [slash_len] at this
  omega
theorem combo_at (v : Int) {k : Nat} (hk : k < 8) : Combo (pcs v) (nameL k) := by
  obtain ⟨b, i, j, hb, hi, hj, e⟩ := pcs_at v
  rw [e]
  obtain ⟨s1, s2, s3, s4, s5⟩ := seg_facts b hb i hi j hj
  obtain ⟨n1, n2, n3, n4, n5⟩ := name_facts k hk
  obtain ⟨p1, p2⟩ := pieces_small b hb i hi j hj
  have hJ := joined_is hb hi hj (nameL k)
  have hP : placeOf (pieceL b i j) (nameL k) = Str.ofString "/" ++ Txt.join (Str.ofString "/") (midL b i j ++ [nameL k]) := rfl
  have small : ∀ {l : List Str}, (∀ y ∈ l, y.length ≤ 10) → ∀ y ∈ l ++ [nameL k], y.length ≤ 10 := fun h y hy => by
    rcases List.mem_append.mp hy with hy | hy
    · exact h y hy
    · rw [List.mem_singleton.mp hy]; exact n2
  have lens : ∀ l : List Str, l.length ≤ 3 → (l ++ [nameL k]).length ≤ 4 := fun l h => by rw [List.length_append, List.length_singleton]; omega
  have hX := join_100 (small fun y hy => (five_facts y (s4 y hy)).2.1) (lens _ s5)
  have hM := join_100 (small fun y hy => (five_facts y (s2 y hy)).2.1) (lens _ s3)
  have free : ∀ x ∈ seg b i j ++ [nameL k], 47 ∉ x.cps.toList := fun y hy => by
    rcases List.mem_append.mp hy with hy | hy
    · exact (five_facts y (s4 y hy)).1
    · rw [List.mem_singleton.mp hy]; exact n1
  have ne : seg b i j ++ [nameL k] ≠ [] := by simp
  have hsp := split_join ne free
  obtain ⟨y, z, r, hseg⟩ : ∃ y z r, seg b i j ++ [nameL k] = y :: z :: r := by
    have hb2 : b = 0 ∨ b = 1 := by omega
    rcases hb2 with rfl | rfl
    · exact ⟨_, _, _, rfl⟩
    · exact ⟨_, _, _, rfl⟩
  have hy : y ∈ five := by
    have h1 : (seg b i j ++ [nameL k]).head? = some y := by rw [hseg]; rfl
    have h2 : (seg b i j).head? = some y := by
      have hb2 : b = 0 ∨ b = 1 := by omega
      rcases hb2 with rfl | rfl <;> exact h1
    exact s4 y (List.mem_of_mem_head? h2)
  have fy := five_facts y hy
  refine ⟨?_, ?_, ?_, ?_, ?_, ?_, ?_, ?_, ?_, ?_⟩
  · exact Nat.le_trans (join_100 (small p2) (lens _ p1)) (by decide)
  · rw [hJ, len_append, slash_len]; omega
  · rw [hJ, len_append, slash_len]; omega
  · rw [hJ, to_one]; simp
  · rw [hJ]
    refine one_two ?_ ?_
    · rw [hseg, join_two, len_append, len_append, slash_len]; omega
    · rw [hseg, join_cps]; exact take_one fy.1 fy.2.2.1
  · rw [hJ, from_one, hsp, List.length_append, List.length_singleton]; omega
  · rw [hJ, hP]
    unfold npOf
    rw [from_one, hsp, List.foldl_append, s1]
    show _ = Str.ofString "/" ++ Txt.join (Str.ofString "/") (midL b i j ++ [nameL k])
    rw [List.foldl_cons, List.foldl_nil, nstep_add n4 (.inl n5)]
  · rw [hP, len_append, slash_len]; omega
  · rw [hP]; exact base_join _ n1
  · rw [hP, strOk_append, strOk_join (by simp) fun y hy => ?_]
    · decide +kernel
    · rcases List.mem_append.mp hy with hy | hy
      · exact (five_facts y (s2 y hy)).2.2.2
      · rw [List.mem_singleton.mp hy]; exact n3
theorem pcs_small (v : Int) : (pcs v).length ≤ 3 ∧ ∀ y ∈ pcs v, y.length ≤ 100 := by
  obtain ⟨b, i, j, hb, hi, hj, e⟩ := pcs_at v
  obtain ⟨h1, h2⟩ := pieces_small b hb i hi j hj
  rw [e]; exact ⟨h1, fun y hy => Nat.le_trans (h2 y hy) (by decide)⟩
end TTB
end Mine

namespace Mine
section TPH
open PySem PySem.W PyProof.Rows PySem.Calls
set_option maxRecDepth 100000
set_option maxHeartbeats 1000000
theorem getD_set {as : List Addr} {i j : Nat} {v : Addr} (hi : i < as.length) : (as.set i v).getD j 0 = if j = i then v else as.getD j 0 := by
  by_cases h : j = i
  · subst h; rw [if_pos rfl, List.getD_eq_getElem?_getD, List.getElem?_set_self hi]; rfl
  · rw [if_neg h, List.getD_eq_getElem?_getD, List.getElem?_set_ne (fun q => h q.symm), List.getD_eq_getElem?_getD]
theorem set_perm (v : Addr) : ∀ {l : List Addr} {i : Nat}, i < l.length → (l.set i v).Perm (v :: l.eraseIdx i)
  | [], _, h => absurd h (Nat.not_lt_zero _)
  | a :: r, 0, _ => .refl _
  | a :: r, i + 1, h => by
    rw [List.set_cons_succ, List.eraseIdx_cons_succ]
    exact ((set_perm v (Nat.lt_of_succ_lt_succ h)).cons a).trans (.swap _ _ _)
theorem swap_perm {as : List Addr} {p c : Nat} (hp : p < as.length) (hc : c < as.length) (hpc : p ≠ c) (v : Addr) : ((as.set p (as.getD c 0)).set c v).Perm (as.set p v) := by
  have hc' : c < (as.set p (as.getD c 0)).length := by rw [List.length_set]; exact hc
  have a1 := set_perm (as.getD c 0) hp
  have a2 := set_perm v hc'
  have a3 := set_perm (as.getD c 0) hc'
  have e : (as.set p (as.getD c 0)).set c (as.getD c 0) = as.set p (as.getD c 0) := by
    apply List.ext_getElem?
    intro k
    by_cases h : c = k
    · subst h
      rw [List.getElem?_set_self hc', List.getElem?_set_ne hpc]
      simp [hc]
    · rw [List.getElem?_set_ne h]
  rw [e] at a3
  have a4 := (a3.symm.trans a1).cons_inv
  exact a2.trans ((a4.cons v).trans (set_perm v hp).symm)
section
variable {lt : Addr → Addr → Bool}
/-- a heap by lt -/
def HOrd (lt : Addr → Addr → Bool) (as : List Addr) : Prop := ∀ i, 0 < i → i < as.length → lt (as.getD i 0) (as.getD ((i - 1) / 2) 0) = false
structure Pre (lt : Addr → Addr → Bool) : Prop where
  tr : ∀ a b c, lt b a = false → lt c b = false → lt c a = false
  asy : ∀ a b, lt a b = true → lt b a = false
def HP (lt : Addr → Addr → Bool) (new pos : Nat) (as : List Addr) : Prop :=
  (∀ i, 0 < i → i < as.length → i ≠ pos → (i - 1) / 2 ≠ pos → lt (as.getD i 0) (as.getD ((i - 1) / 2) 0) = false) ∧
  (∀ i, 0 < i → i < as.length → (i - 1) / 2 = pos → lt (as.getD i 0) new = false) ∧
  (∀ i, 0 < i → i < as.length → (i - 1) / 2 = pos → 0 < pos → lt (as.getD i 0) (as.getD ((pos - 1) / 2) 0) = false)
theorem hp_stop {new pos : Nat} {as : List Addr} (h : HP lt new pos as) (hp : pos < as.length) (h0 : 0 < pos → lt new (as.getD ((pos - 1) / 2) 0) = false) : HOrd lt (as.set pos new) := by
  intro i hi hl
  rw [List.length_set] at hl
  rw [getD_set hp, getD_set hp]
  by_cases e : i = pos
  · subst e
    rw [if_pos rfl, if_neg (by omega)]
    exact h0 hi
  · rw [if_neg e]
    by_cases e2 : (i - 1) / 2 = pos
    · rw [if_pos e2]; exact h.2.1 i hi hl e2
    · rw [if_neg e2]; exact h.1 i hi hl e e2
theorem sdl_ok (P : Pre lt) {new : Nat} : ∀ (f pos : Nat) (as : List Addr), pos < as.length → pos ≤ f → HP lt new pos as → HOrd lt (sdl lt new f pos as) ∧ (sdl lt new f pos as).Perm (as.set pos new) ∧ (sdl lt new f pos as).length = as.length
  | 0, pos, as, hp, hf, h => ⟨hp_stop h hp fun q => absurd q (by omega), .refl _, List.length_set⟩
  | f + 1, pos, as, hp, hf, h => by
    unfold sdl
    by_cases h0 : 0 < pos
    · rw [if_pos h0]
      by_cases hl : lt new (as.getD ((pos - 1) / 2) 0) = true
      · rw [if_pos hl]
        have hq : (pos - 1) / 2 < as.length := by omega
        have key : HP lt new ((pos - 1) / 2) (as.set pos (as.getD ((pos - 1) / 2) 0)) := by
          refine ⟨fun i hi hl' n1 n2 => ?_, fun i hi hl' e => ?_, fun i hi hl' e hpp => ?_⟩
          · rw [List.length_set] at hl'
            have hip : i ≠ pos := fun q => n2 (by rw [q])
            rw [getD_set hp, getD_set hp, if_neg hip]
            by_cases e2 : (i - 1) / 2 = pos
            · rw [if_pos e2]; exact h.2.2 i hi hl' e2 h0
            · rw [if_neg e2]; exact h.1 i hi hl' hip e2
          · rw [List.length_set] at hl'
            rw [getD_set hp]
            by_cases e2 : i = pos
            · rw [if_pos e2]; exact P.asy _ _ hl
            · rw [if_neg e2]
              have z := h.1 i hi hl' e2 (by omega)
              rw [e] at z
              exact P.tr _ _ _ (P.asy _ _ hl) z
          · rw [List.length_set] at hl'
            have zp := h.1 ((pos - 1) / 2) hpp hq (by omega) (by omega)
            rw [getD_set hp, getD_set hp, if_neg (show ¬ ((pos - 1) / 2 - 1) / 2 = pos by omega)]
            by_cases e2 : i = pos
            · rw [if_pos e2]; exact zp
            · rw [if_neg e2]
              have z := h.1 i hi hl' e2 (by omega)
              rw [e] at z
              exact P.tr _ _ _ zp z
        obtain ⟨r1, r2, r3⟩ := sdl_ok P f ((pos - 1) / 2) (as.set pos (as.getD ((pos - 1) / 2) 0)) (by rw [List.length_set]; omega) (by omega) key
        exact ⟨r1, r2.trans (swap_perm hp hq (by omega) new), by rw [r3, List.length_set]⟩
      · rw [if_neg hl]
        exact ⟨hp_stop h hp fun _ => Bool.eq_false_iff.mpr hl, .refl _, List.length_set⟩
    · rw [if_neg h0]
      exact ⟨hp_stop h hp fun q => absurd q h0, .refl _, List.length_set⟩
theorem push_ok (P : Pre lt) {as : List Addr} {x : Addr} (h : HOrd lt as) : HOrd lt (sdl lt x as.length as.length (as ++ [x])) ∧ (sdl lt x as.length as.length (as ++ [x])).Perm (as ++ [x]) := by
  have hl : (as ++ [x]).length = as.length + 1 := by simp
  have old : ∀ i, i < as.length → (as ++ [x]).getD i 0 = as.getD i 0 := fun i hi => by
    rw [List.getD_eq_getElem?_getD, List.getElem?_append_left hi, List.getD_eq_getElem?_getD]
  obtain ⟨r1, r2, _⟩ := sdl_ok P (new := x) as.length as.length (as ++ [x]) (by omega) (Nat.le_refl _) ⟨fun i hi hl' n1 n2 => by
    rw [old i (by omega), old _ (by omega)]; exact h i hi (by omega), fun i hi hl' e => by omega, fun i hi hl' e => by omega⟩
  refine ⟨r1, ?_⟩
  have e : (as ++ [x]).set as.length x = as ++ [x] := by
    rw [List.set_append_right _ _ (Nat.le_refl _)]; simp
  rw [e] at r2
  exact r2
def HR (lt : Addr → Addr → Bool) (pos : Nat) (as : List Addr) : Prop :=
  (∀ i, 0 < i → i < as.length → i ≠ pos → (i - 1) / 2 ≠ pos → lt (as.getD i 0) (as.getD ((i - 1) / 2) 0) = false) ∧
  (∀ i, 0 < i → i < as.length → (i - 1) / 2 = pos → 0 < pos → lt (as.getD i 0) (as.getD ((pos - 1) / 2) 0) = false)
theorem sul_ok (P : Pre lt) : ∀ (f pos : Nat) (as : List Addr), pos < as.length → as.length - pos ≤ f → HR lt pos as →
    HR lt (sul lt f pos as).2 (sul lt f pos as).1 ∧ (sul lt f pos as).2 < (sul lt f pos as).1.length ∧ (sul lt f pos as).1.length = as.length ∧ ¬ 2 * (sul lt f pos as).2 + 1 < as.length ∧ ∀ v, ((sul lt f pos as).1.set (sul lt f pos as).2 v).Perm (as.set pos v)
  | 0, pos, as, hp, hf, h => absurd hf (by omega)
  | f + 1, pos, as, hp, hf, h => by
    have go : ∀ c, c = 2 * pos + 1 ∨ c = 2 * pos + 2 → c < as.length → (∀ i, i < as.length → (i - 1) / 2 = pos → 0 < i → lt (as.getD i 0) (as.getD c 0) = false) →
        HR lt (sul lt f c (as.set pos (as.getD c 0))).2 (sul lt f c (as.set pos (as.getD c 0))).1 ∧ (sul lt f c (as.set pos (as.getD c 0))).2 < (sul lt f c (as.set pos (as.getD c 0))).1.length ∧ (sul lt f c (as.set pos (as.getD c 0))).1.length = as.length ∧
          ¬ 2 * (sul lt f c (as.set pos (as.getD c 0))).2 + 1 < as.length ∧ ∀ v, ((sul lt f c (as.set pos (as.getD c 0))).1.set (sul lt f c (as.set pos (as.getD c 0))).2 v).Perm (as.set pos v) := by
      intro c hc hcl hmin
      have key : HR lt c (as.set pos (as.getD c 0)) := by
        refine ⟨fun i hi hl' n1 n2 => ?_, fun i hi hl' e hpp => ?_⟩
        · rw [List.length_set] at hl'
          rw [getD_set hp, getD_set hp]
          by_cases e : i = pos
          · rw [if_pos e, if_neg (by omega), e]
            exact h.2 c (by omega) hcl (by omega) (by omega)
          · rw [if_neg e]
            by_cases e2 : (i - 1) / 2 = pos
            · rw [if_pos e2]; exact hmin i hl' e2 hi
            · rw [if_neg e2]; exact h.1 i hi hl' e e2
        · rw [List.length_set] at hl'
          rw [getD_set hp, getD_set hp, if_neg (by omega), if_pos (by omega)]
          have z := h.1 i hi hl' (by omega) (by omega)
          rw [e] at z
          exact z
      obtain ⟨r1, r2, r3, r4, r5⟩ := sul_ok P f c (as.set pos (as.getD c 0)) (by rw [List.length_set]; exact hcl) (by rw [List.length_set]; omega) key
      rw [List.length_set] at r3 r4
      exact ⟨r1, r2, r3, r4, fun v => (r5 v).trans (swap_perm hp hcl (by omega) v)⟩
    unfold sul
    by_cases h1 : 2 * pos + 1 < as.length
    · rw [if_pos h1]
      by_cases h2 : 2 * pos + 2 < as.length ∧ lt (as.getD (2 * pos + 1) 0) (as.getD (2 * pos + 2) 0) = false
      · rw [if_pos h2]
        refine go (2 * pos + 2) (.inr rfl) h2.1 fun i hi e hi0 => ?_
        have hi2 : i = 2 * pos + 1 ∨ i = 2 * pos + 2 := by omega
        rcases hi2 with rfl | rfl
        · exact h2.2
        · cases hq : lt (as.getD (2 * pos + 2) 0) (as.getD (2 * pos + 2) 0) with
          | false => rfl
          | true => have := P.asy _ _ hq; rw [hq] at this; cases this
      · rw [if_neg h2]
        refine go (2 * pos + 1) (.inl rfl) h1 fun i hi e hi0 => ?_
        have hi2 : i = 2 * pos + 1 ∨ i = 2 * pos + 2 := by omega
        rcases hi2 with rfl | rfl
        · cases hq : lt (as.getD (2 * pos + 1) 0) (as.getD (2 * pos + 1) 0) with
          | false => rfl
          | true => have := P.asy _ _ hq; rw [hq] at this; cases this
        · have : lt (as.getD (2 * pos + 1) 0) (as.getD (2 * pos + 2) 0) = true := by
            cases hq : lt (as.getD (2 * pos + 1) 0) (as.getD (2 * pos + 2) 0) with
            | true => rfl
            | false => exact absurd ⟨hi, hq⟩ h2
          exact P.asy _ _ this
    · rw [if_neg h1]
      exact ⟨h, hp, rfl, h1, fun v => .refl _⟩
theorem sup_ok (P : Pre lt) {y x : Addr} {r : List Addr} (h : HOrd lt (y :: r ++ [x])) : HOrd lt (sup lt (x :: r)) ∧ (sup lt (x :: r)).Perm (x :: r) := by
  have e0 : ∀ i, 0 < i → i < r.length + 1 → (x :: r).getD i 0 = (y :: r ++ [x]).getD i 0 := fun i h1 h2 => by
    obtain ⟨k, rfl⟩ : ∃ k, i = k + 1 := ⟨i - 1, by omega⟩
    have hk : k < r.length := by omega
    rw [List.getD_eq_getElem?_getD, List.getD_eq_getElem?_getD, List.cons_append, List.getElem?_cons_succ, List.getElem?_cons_succ, List.getElem?_append_left hk]
  have hR : HR lt 0 (x :: r) := by
    refine ⟨fun i hi hl n1 n2 => ?_, fun i hi hl e q => absurd q (Nat.lt_irrefl _)⟩
    rw [List.length_cons] at hl
    rw [e0 i hi hl, e0 _ (by omega) (by omega)]
    exact h i hi (by rw [List.length_append, List.length_cons, List.length_singleton]; omega)
  obtain ⟨r1, r2, r3, r4, r5⟩ := sul_ok P (x :: r).length 0 (x :: r) (Nat.succ_pos _) (Nat.le_refl _) hR
  unfold sup
  dsimp only
  rw [show (x :: r).getD 0 0 = x from rfl]
  generalize hs : sul lt (x :: r).length 0 (x :: r) = q at *
  have hl2 : q.2 < (q.1.set q.2 x).length := by rw [List.length_set]; exact r2
  have hnc : ∀ i, 0 < i → i < q.1.length → (i - 1) / 2 ≠ q.2 := fun i h1 h2 e => r4 (by omega)
  have key : HP lt x q.2 (q.1.set q.2 x) := by
    refine ⟨fun i hi hl n1 n2 => ?_, fun i hi hl e => ?_, fun i hi hl e _ => ?_⟩
    · rw [List.length_set] at hl
      rw [getD_set r2, getD_set r2, if_neg n1, if_neg n2]
      exact r1.1 i hi hl n1 n2
    · rw [List.length_set] at hl; exact absurd e (hnc i hi hl)
    · rw [List.length_set] at hl; exact absurd e (hnc i hi hl)
  obtain ⟨s1, s2, _⟩ := sdl_ok P (new := x) q.2 q.2 (q.1.set q.2 x) hl2 (Nat.le_refl _) key
  refine ⟨s1, s2.trans ?_⟩
  rw [List.set_set]
  exact r5 x
theorem root_min (P : Pre lt) {as : List Addr} (h : HOrd lt as) : ∀ i, i < as.length → lt (as.getD i 0) (as.getD 0 0) = false := by
  intro i
  induction i using Nat.strongRecOn with
  | _ i ih =>
    intro hi
    by_cases h0 : i = 0
    · subst h0
      cases hq : lt (as.getD 0 0) (as.getD 0 0) with
      | false => rfl
      | true => have := P.asy _ _ hq; rw [hq] at this; cases this
    · exact P.tr _ _ _ (ih ((i - 1) / 2) (by omega) (by omega)) (h i (by omega) hi)
theorem root_min_mem (P : Pre lt) {y : Addr} {r : List Addr} (h : HOrd lt (y :: r)) : ∀ a ∈ r, lt a y = false := by
  intro a ha
  obtain ⟨i, hi, e⟩ := List.getElem_of_mem ha
  have := root_min P h (i + 1) (by rw [List.length_cons]; omega)
  rw [List.getD_eq_getElem?_getD, List.getElem?_cons_succ, List.getElem?_eq_getElem hi, e] at this
  exact this
end
theorem hord_congr {lt lt' : Addr → Addr → Bool} {as : List Addr} (h : ∀ a ∈ as, ∀ b ∈ as, lt a b = lt' a b) (ho : HOrd lt as) : HOrd lt' as := by
  intro i hi hl
  have hq : (i - 1) / 2 < as.length := by omega
  rw [← h _ (getD_mem hl) _ (getD_mem hq)]
  exact ho i hi hl
end TPH
end Mine

namespace Mine
section TE4
open PySem PySem.W PyProof.Rows PySem.Calls
set_option maxRecDepth 100000
set_option maxHeartbeats 1000000
set_option pp.deepTerms false
set_option pp.deepTerms.threshold 6
local macro_rules | `(tactic| k_mem) => `(tactic| assumption)
local macro_rules | `(tactic| walk_at "call ref") => `(tactic| (k_here; refine Stop.intro ?_))
local macro_rules | `(tactic| walk_at "exec For Tuple Name cons nil") => `(tactic| (k_here; refine Stop.intro ?_))
local macro_rules | `(tactic| walk_at "pyIter ref") => `(tactic| (k_here; refine Stop.intro ?_))
local macro_rules | `(tactic| walk_at "subscriptTail") => `(tactic| (k_here; (with_reducible show wpAny _ _ (subscriptTail _ _ (Value.ref _) (Value.int _ _)) _ _ _); k_dflt (refine item_str (by k_asm) (by k_mem) (by omega) (by omega) (by omega) (by with_unfolding_all rfl) _ (by assumption) ?_; intro tk')))
local macro_rules | `(tactic| walk_at "binaryOp Add ref ref") => `(tactic| (k_here; k_dflt (refine cat_one (by k_asm) (by k_asm) (by k_mem) (by k_mem) (by omega) ?_); intro D' h' F' N' l1; (try k_lt l1); (try k_sweep)))
section
variable {w : World} {b₀ : Heap} {mean : ExcName → Option Value} {mg mb : Str → Option Value} {A : Around} {s : Shared} {g : Heap} {L : Addr} {m : Str → Option Value} {news : Led}
theorem join_K {x y : Str} {t t2 : Tok} {Q : Value → Shared → Prop} (W : Wd w b₀ mean mg mb) (gst : b₀.StaysIn g) (R : Room A 6) (F : Fr g L s.heap m) (N : News g L s.heap news) (hx : x.length ≤ 1000)
    (hy : (if Txt.startswith x (Str.ofString "/") = true then x else Str.ofString "/r" ++ (Str.ofString "/" ++ x)) = y)
    (ret : ∀ h' tk' t', Fr g L h' m → News g L h' news → Q (.str y t') { s with heap := h', toks := tk' }) :
    wpAny (model PySem.Challenge.rw_ik0148_01.row.prog w) A (call (.ref 226) [.str (Str.ofString "/r") t, .str x t2]) Q no s :=
  join_ct W (fun b o e => F.keep b o (gst b o e)) R hx fun h' tk' t' k => by rw [hy]; exact ret h' tk' t' (fr_stay F k) (news_stay N k)
theorem normpath_K {p y : Str} {t : Tok} {Q : Value → Shared → Prop} (W : Wd w b₀ mean mg mb) (gst : b₀.StaysIn g) (R : Room A 10) (F : Fr g L s.heap m) (N : News g L s.heap news) (ok : NpOk p) (hy : npOf p = y)
    (ret : ∀ h' tk' t', Fr g L h' m → News g L h' news → Q (.str y t') { s with heap := h', toks := tk' }) :
    wpAny (model PySem.Challenge.rw_ik0148_01.row.prog w) A (call (.ref 257) [.str p t]) Q no s := by
  subst hy
  exact normpath_ct W (fun b o e => F.keep b o (gst b o e)) R ok.hp ok.hp0 ok.c1 ok.c2 rfl ok.hcs fun h' tk' t' k => ret h' tk' t' (fr_stay F k) (news_stay N k)
theorem Combo.npok {ps : List Str} {nm : Str} (h : Combo ps nm) : NpOk (joined ps nm) := ⟨Nat.le_trans h.l2 (by decide), h.l3, h.c1, h.c2, h.cs⟩
end
theorem allLt_mem {d : Addr} {l : Led} (h : AllLt d l) : ∀ p ∈ l, @LT.lt Nat _ p.1 d := by
  induction l with
  | nil => intro p hp; cases hp
  | cons a r ih =>
    intro p hp
    rcases List.mem_cons.mp hp with rfl | hp
    · exact h.1
    · exact ih h.2 p hp
theorem keylt_iff {a b : Key} : keylt a b = true ↔ a.1 < b.1 ∨ (a.1 = b.1 ∧ a.2.cps.toList < b.2.cps.toList) := by
  unfold keylt
  by_cases h1 : a.1 = b.1
  · rw [if_pos h1]
    by_cases h2 : a.2 = b.2
    · rw [if_pos h2, h2, h1]
      constructor
      · intro h; cases h
      · rintro (h | ⟨_, h⟩)
        · exact absurd h (Int.lt_irrefl _)
        · exact absurd h (List.lt_irrefl _)
    · rw [if_neg h2, decide_eq_true_eq]
      constructor
      · exact fun h => .inr ⟨h1, h⟩
      · rintro (h | ⟨_, h⟩)
        · rw [h1] at h; exact absurd h (Int.lt_irrefl _)
        · exact h
  · rw [if_neg h1, decide_eq_true_eq]
    constructor
    · exact .inl
    · rintro (h | ⟨h, _⟩)
      · exact h
      · exact absurd h h1
theorem keylt_no {a b : Key} : keylt a b = false ↔ b.1 < a.1 ∨ (a.1 = b.1 ∧ b.2.cps.toList ≤ a.2.cps.toList) := by
  rw [← Bool.not_eq_true, keylt_iff]
  constructor
  · intro h
    by_cases h1 : b.1 < a.1
    · exact .inl h1
    · have e : a.1 = b.1 := by
        have : ¬ a.1 < b.1 := fun q => h (.inl q)
        omega
      exact .inr ⟨e, List.not_lt.mp fun q => h (.inr ⟨e, q⟩)⟩
  · rintro (h | ⟨h1, h2⟩) (q | ⟨q1, q2⟩)
    · omega
    · omega
    · omega
    · exact absurd q2 (List.not_lt.mpr h2)
theorem key_pre (val : Addr → Key) : Pre (fun a b => keylt (val a) (val b)) where
  tr a b c h1 h2 := by
    rw [keylt_no] at *
    rcases h1 with h1 | ⟨h1, h1'⟩ <;> rcases h2 with h2 | ⟨h2, h2'⟩
    · exact .inl (Int.lt_trans h1 h2)
    · exact .inl (by omega)
    · exact .inl (by omega)
    · exact .inr ⟨by omega, List.le_trans h1' h2'⟩
  asy a b h := by
    rw [keylt_iff] at h
    rw [keylt_no]
    rcases h with h | ⟨h1, h2⟩
    · exact .inl h
    · exact .inr ⟨h1.symm, List.le_of_lt h2⟩
theorem key_anti {a b : Key} (h1 : keylt a b = false) (h2 : keylt b a = false) : a = b := by
  rw [keylt_no] at *
  rcases h1 with h1 | ⟨h1, h1'⟩ <;> rcases h2 with h2 | ⟨h2, h2'⟩
  · omega
  · omega
  · omega
  · exact Prod.ext h1 (cps_inj (List.le_antisymm h2' h1'))
/-- the key that a file has on the heap -/
def keyOf (v : Int) : Key := (-((v.fdiv 128).fmod 10), placeOf (pcs v) (nameL ((v.fdiv 16).fmod 8).toNat))
structure LawPins (m : Str → Option Value) (wh : Int) (t : Tok) (fA mA x hA tA : Addr) : Prop where
  p1 : m (Str.ofString "whole") = some (.int wh t)
  p2 : m (Str.ofString "files") = some (.ref fA)
  p3 : m (Str.ofString "mods") = some (.ref mA)
  p4 : m (Str.ofString "ignore") = some (.ref x)
  p5 : m (Str.ofString "heap") = some (.ref hA)
  p6 : m (Str.ofString "told") = some (.ref tA)
theorem fr_law {g h : Heap} {L : Addr} {m : Str → Option Value} {wh : Int} {t : Tok} {fA mA x hA tA : Addr} (F : Fr g L h m) (P : LawPins m wh t fA mA x hA tA) :
    Fr g L h (fun y => match [(Str.ofString "whole", Value.int wh t), (Str.ofString "files", .ref fA), (Str.ofString "mods", .ref mA), (Str.ofString "ignore", .ref x), (Str.ofString "heap", .ref hA), (Str.ofString "told", .ref tA)].lookup y with | some v => some v | none => m y) :=
  fr_pins F _ (by simp only [List.forall_mem_cons]; exact ⟨P.p1, P.p2, P.p3, P.p4, P.p5, P.p6, fun _ h => nomatch h⟩)
/-- what holds at the head of the loop that fills the heap -/
inductive PushI (wh : Int) (t : Tok) (fA mA x hA tA : Addr) (xs : List Int) (led : Led) (i : Nat) (m' : Str → Option Value) (news' : Led) : Prop
  | mk (as : List Addr) (n : Nat) (val : Addr → Key) (ext : Led) (e : news' = (hA, listOf (refs as) n) :: (ext ++ led)) (P : LawPins m' wh t fA mA x hA tA) (hitm : ∀ a ∈ as, ∃ t1 t2 n1, (a, listOf #[.int (val a).1 t1, .str (val a).2 t2] n1) ∈ ext) (hord : HOrd (fun a b => keylt (val a) (val b)) as) (hperm : (as.map val).Perm ((xs.take i).map keyOf)) (hfr : ∀ p ∈ ext, @Ne Nat p.1 hA ∧ ∀ q ∈ led, @Ne Nat p.1 q.1) : PushI wh t fA mA x hA tA xs led i m' news'
section
variable {w : World} {b₀ : Heap} {mean : ExcName → Option Value} {mg mb : Str → Option Value} {A : Around} {s : Shared} {L fa : Addr} {cd : Value} {m : Str → Option Value} {Q : Flow → Shared → Prop}
theorem law_S5 {led : Led} {wh : Int} {t : Tok} {fA mA x hA tA nA : Addr} {fs : List Addr} {nf : Nat} {xs : List Int} {nl : List (Str × Tok)} {on : Obj} (W : Wd w b₀ mean mg mb) (H : Room A 24) (F : Fr b₀ L s.heap m) (P : LawPins m wh t fA mA x hA tA) (N : News b₀ L s.heap ((hA, listOf (refs []) 0) :: led))
    (hoff : OwnOff led [hA]) (hf : (fA, listOf (refs fs) nf) ∈ led) (hfs : Fa (FileIn led) fs xs) (hon : (L + 1, on) ∈ led) (hon2 : on.data = .cell (some (.ref nA))) (hna : (nA, listOf (sls nl) 0) ∈ led) (hnl : nl.map (·.1) = names8.map (·.1)) (hz : xs.length ≤ 20)
    (ret : ∀ h' tk' m' as n val ext, Fr b₀ L h' m' → LawPins m' wh t fA mA x hA tA → News b₀ L h' ((hA, listOf (refs as) n) :: (ext ++ led)) → (∀ a ∈ as, ∃ t1 t2 n1, (a, listOf #[.int (val a).1 t1, .str (val a).2 t2] n1) ∈ ext) → HOrd (fun a b => keylt (val a) (val b)) as → (as.map val).Perm (xs.map keyOf) → (∀ p ∈ ext, @Ne Nat p.1 hA ∧ ∀ q ∈ led, @Ne Nat p.1 q.1) → Q .next { s with heap := h', toks := tk' }) :
   wpAny (model PySem.Challenge.rw_ik0148_01.row.prog w) A (exec (nth (bodyOf lawD) 5) (lawEnv L fa cd)) Q no s := by
  refine H.wp ?_
  have KX := W.K
  have TX := W.T
  revert KX
  k_fill
  intro KX
  conv =>
    arg 3
    arg 1
    whnf
  unfold lawEnv
  conv =>
    arg 3
    arg 2
    arg 2
    whnf
  have F2 := fr_law F P
  clear F
  have hnll : nl.length = 8 := by have := congrArg List.length hnl; simpa [names8] using this
  k_steps
  refine Stop.here (wpAny_For ?_ (by intro _; rfl))
  k_steps
  rename (Fr _ _ _ _) => F3
  refine Stop.here (iter_list (vs := refs fs) rfl (PushI wh t fA mA x hA tA xs led)
    F3 N ⟨_, (N _ (.tail _ hf)).1, rfl, _, rfl⟩ ⟨[], 0, fun _ => (0, Str.ofString ""), [], rfl, ⟨rfl, rfl, rfl, rfl, rfl, rfl⟩, (fun _ h => nomatch h), (fun i _ h => absurd h (Nat.not_lt_zero _)), .refl _, (fun _ h => nomatch h)⟩ ?_ ?_ ?_)
  · rintro i m' news' h' ⟨as, n, val, ext, rfl, _⟩ _ N5
    exact ⟨_, (N5 _ (.tail _ (List.mem_append_right _ hf))).1, rfl, _, rfl⟩
  · rintro it oi i v m' news' h' tk' hit hni hv ⟨as, n, val, ext, rfl, P5, hitm, hord, hperm, hfr⟩ F5 N5
    have hi : i < fs.length := by
      have := (Array.getElem?_eq_some_iff.mp hv).1
      simpa using this
    obtain rfl : v = .ref fs[i] := by
      rw [List.getElem?_toArray, List.getElem?_map, List.getElem?_eq_getElem hi] at hv
      exact (Option.some.inj hv).symm
    obtain ⟨xv, hxi, PA, ps, ta, tb, hfi, hpi, hps⟩ := hfs.get (List.getElem?_eq_getElem hi)
    have hmem : ∀ p ∈ led, p ∈ (it, oi) :: (hA, listOf (refs as) n) :: (ext ++ led) := fun p hp => .tail _ (.tail _ (List.mem_append_right _ hp))
    have hk0 : 0 ≤ (xv.fdiv 16).fmod 8 := Int.fmod_nonneg_of_pos _ (by decide)
    have hk8 : (xv.fdiv 16).fmod 8 < 8 := Int.fmod_lt_of_pos _ (by decide)
    have hkey : keyOf xv = (-((xv.fdiv 128).fmod 10), placeOf (pcs xv) (nameL ((xv.fdiv 16).fmod 8).toNat)) := rfl
    generalize hkk : (xv.fdiv 16).fmod 8 = kk at *
    have F6 := fr_law F5 P5
    refine kun_list (items := #[.int (-((xv.fdiv 128).fmod 10)) ta, .ref PA, .int kk tb]) F6 N5 ⟨_, (N5 _ (hmem _ hfi)).1, rfl, _, rfl⟩ rfl rfl rfl fun h6 F7 N7 => ?_
    clear F6 N5 F5
    have hon' : (L + 1, on) ∈ ext ++ led := List.mem_append_right _ hon
    have hna' : (nA, listOf (sls nl) 0) ∈ ext ++ led := List.mem_append_right _ hna
    have hpi' : (PA, listOf (sls ps) 0) ∈ ext ++ led := List.mem_append_right _ hpi
    obtain ⟨hp3, hp100⟩ := pcs_small xv
    have hC := combo_at xv (k := kk.toNat) (by omega)
    have hn100 := names_small kk.toNat (by omega)
    have hpsl : ps.length ≤ 3 := by rw [← hps, List.length_map] at hp3; exact hp3
    have hj : ∀ u : Tok, (ps ++ [(nameL kk.toNat, u)]).map (·.1) = pcs xv ++ [nameL kk.toNat] := fun u => by rw [List.map_append, hps]; rfl
    have hB : ∀ u : Tok, ∀ y ∈ (ps ++ [(nameL kk.toNat, u)]).map (·.1), y.length ≤ 100 := by
      intro u y hy
      rw [hj] at hy
      rcases List.mem_append.mp hy with hy | hy
      · exact hp100 y hy
      · rw [List.mem_singleton.mp hy]; exact hn100
    have hZ : ∀ u : Tok, (ps ++ [(nameL kk.toNat, u)]).length * 100 + (ps ++ [(nameL kk.toNat, u)]).length * (Str.ofString "/").length ≤ 16777216 := by
      intro u
      rw [slash_len, List.length_append, List.length_singleton]; omega
    k_with "call builtin:str.join" => (refine join_str (B := 100) (by k_asm) (by k_mem) (hB _) (hZ _) ?_; intro t' k')
    k_steps
    rename (Fr _ _ _ _) => F8
    rename (News _ _ _ _) => N8
    have N9 := news_pick N8 (small := (it, oi) :: (hA, listOf (refs as) n) :: (ext ++ led)) (fun p hp => .tail _ (.tail _ hp))
    clear N8
    refine Stop.here (join_K W (fun _ _ e => e) ⟨rfl, Nat.le_of_ble_eq_true rfl, Nat.le_of_ble_eq_true rfl⟩ F8 N9 (y := joined (pcs xv) (nameL kk.toNat)) (Nat.le_trans (Nat.le_of_eq (congrArg (fun z => (Txt.join (Str.ofString "/") z).length) (hj _))) (Nat.le_trans hC.l1 (by decide)))
      (congrArg (fun z => if Txt.startswith (Txt.join (Str.ofString "/") z) (Str.ofString "/") = true then Txt.join (Str.ofString "/") z else Str.ofString "/r" ++ (Str.ofString "/" ++ Txt.join (Str.ofString "/") z)) (hj _)) fun h9 tk9 t9 F10 N10 => ?_)
    clear F8 N9
    k_steps
    rename (Fr _ _ _ _) => F8
    rename (News _ _ _ _) => N9
    refine Stop.here (normpath_K W (fun _ _ e => e) ⟨rfl, Nat.le_of_ble_eq_true rfl, Nat.le_of_ble_eq_true rfl⟩ F8 N9 hC.npok hC.np fun h10 tk10 t10 F11 N11 => ?_)
    clear F8 N9
    k_steps
    rename_i q9 hE F12 N12 l9
    have z9 := N12 _ (.head _)
    have nh := N12 _ (.tail _ (.tail _ (.head _)))
    have hal : as.length ≤ 20 := by
      have := hperm.length_eq
      rw [List.length_map, List.length_map, List.length_take] at this
      omega
    have hlt9 : ∀ p ∈ ext, @LT.lt Nat _ p.1 q9 := fun p hp => allLt_mem l9.2.2 p (List.mem_append_left _ hp)
    have hnew : ∀ a ∈ as, @Ne Nat a q9 := fun a ha => by
      obtain ⟨t1, t2, n1, hm⟩ := hitm a ha
      exact Nat.ne_of_lt (hlt9 _ hm)
    obtain ⟨val', hval', hvq⟩ : ∃ val' : Addr → Key, (∀ a ∈ as, val' a = val a) ∧ val' q9 = keyOf xv := ⟨fun a => if a = q9 then keyOf xv else val a, fun a ha => if_neg (hnew a ha), if_pos rfl⟩
    have hord' : HOrd (fun a b => keylt (val' a) (val' b)) as := hord_congr (fun a ha b hb => by rw [hval' a ha, hval' b hb]) hord
    have hitm' : ∀ a ∈ as ++ [q9], ∃ t1 t2 n1, (a, listOf #[.int (val' a).1 t1, .str (val' a).2 t2] n1) ∈ (q9, listOf #[.int (-((xv.fdiv 128).fmod 10)) ta, .str (placeOf (pcs xv) (nameL kk.toNat)) t10] 0) :: ext := by
      intro a ha
      rcases List.mem_append.mp ha with ha | ha
      · obtain ⟨t1, t2, n1, hm⟩ := hitm a ha
        rw [hval' a ha]
        exact ⟨t1, t2, n1, .tail _ hm⟩
      · rw [List.mem_singleton.mp ha, hvq, hkey]
        exact ⟨ta, t10, 0, .head _⟩
    have hget : ∀ a ∈ as ++ [q9], Item hE a (val' a) := fun a ha => by
      obtain ⟨t1, t2, n1, hm⟩ := hitm' a ha
      refine ⟨t1, t2, n1, (N12 (a, listOf #[.int (val' a).1 t1, .str (val' a).2 t2] n1) ?_).1⟩
      rcases List.mem_cons.mp hm with hm | hm
      · rw [hm]; exact .head _
      · exact .tail _ (.tail _ (.tail _ (List.mem_append_left _ hm)))
    refine Stop.here (heappush_ct (hp := hA) (x := q9) (as := as) (n := n) (val := val') W (fun b o e => F12.keep b o e) ⟨rfl, Nat.le_of_ble_eq_true rfl, Nat.le_of_ble_eq_true rfl⟩ nh.2.2 nh.1 (fun a ha => ?_) (fun a ha => hget a (List.mem_append_left _ ha)) (Nat.ne_of_gt l9.2.1) (hget q9 (List.mem_append_right _ (.head _))) (by omega) fun h11 tk11 k11 e11 => ?_)
    · obtain ⟨t1, t2, n1, hm⟩ := hitm a ha
      exact (hfr _ hm).1
    obtain ⟨r1, r2⟩ := push_ok (key_pre val') (x := q9) hord'
    have F13 := fr_kept F12 N12 (.tail _ (.tail _ (.head _))) k11
    have N13 : News b₀ L h11 ((it, oi) :: (hA, listOf (refs (sdl (fun a b => keylt (val' a) (val' b)) q9 as.length as.length (as ++ [q9]))) (n + 1)) :: (((q9, listOf #[.int (-((xv.fdiv 128).fmod 10)) ta, .str (placeOf (pcs xv) (nameL kk.toNat)) t10] 0) :: ext) ++ led)) := by
      intro p hp
      have other : ∀ p, p ∈ (q9, listOf #[.int (-((xv.fdiv 128).fmod 10)) ta, .str (placeOf (pcs xv) (nameL kk.toNat)) t10] 0) :: (it, oi) :: (hA, listOf (refs as) n) :: (ext ++ led) → @Ne Nat p.1 hA → h11.get? p.1 = some p.2 ∧ p.1 ≠ L ∧ b₀.get? p.1 = none := fun p hp ne => ⟨k11 _ _ (by rw [List.mem_singleton]; exact ne) (N12 p hp).1, (N12 p hp).2⟩
      rcases List.mem_cons.mp hp with rfl | hp
      · exact other _ (.tail _ (.head _)) (Nat.ne_of_gt (ltN (hit _ (.head _))))
      rcases List.mem_cons.mp hp with rfl | hp
      · exact ⟨e11, nh.2⟩
      rcases List.mem_cons.mp hp with rfl | hp
      · exact other _ (.head _) (Nat.ne_of_gt l9.2.1)
      · refine other _ (.tail _ (.tail _ (.tail _ hp))) ?_
        rcases List.mem_append.mp hp with hp | hp
        · exact (hfr _ hp).1
        · exact hoff _ hp _ (.head _)
    clear F12 N12
    k_steps
    refine Stop.here ⟨_, _, _, _, rfl, F13, N13, fun p hp => ?_, _, n + 1, val', _, rfl, ⟨rfl, rfl, rfl, rfl, rfl, rfl⟩, fun a ha => hitm' a (r2.mem_iff.mp ha), r1, ?_, fun p hp => ?_⟩
    · rcases List.mem_cons.mp hp with rfl | hp
      · exact Nat.ne_of_lt (ltN (hit (hA, listOf (refs []) 0) (.head _)))
      rcases List.mem_cons.mp hp with rfl | hp
      · exact Nat.ne_of_gt l9.1
      · exact hni p (.tail _ hp)
    · refine (r2.map val').trans ?_
      rw [List.map_append, List.take_add_one, hxi, Option.toList_some, List.map_append]
      refine List.Perm.append ?_ (by rw [List.map_cons, List.map_nil, hvq]; exact .refl _)
      have : as.map val' = as.map val := List.map_congr_left hval'
      rw [this]; exact hperm
    · rcases List.mem_cons.mp hp with rfl | hp
      · exact ⟨Nat.ne_of_gt l9.2.1, fun q hq => Nat.ne_of_gt (allLt_mem l9.2.2 q (List.mem_append_right _ hq))⟩
      · exact hfr p hp
  · rintro m' news' h' tk' ⟨as, n, val, ext, rfl, P5, hitm, hord, hperm, hfr⟩ F5 N5
    have hl : (refs fs).size = xs.length := by rw [List.size_toArray, List.length_map, hfs.length]
    rw [hl, List.take_length] at hperm
    clear F3
    k_steps
    exact ret _ _ _ as n val ext F5 P5 N5 hitm hord hperm hfr
end
end TE4
end Mine

namespace Mine
section TE2
open PySem PySem.W PyProof.Rows PySem.Calls
set_option maxRecDepth 100000
set_option maxHeartbeats 1000000
set_option pp.deepTerms false
set_option pp.deepTerms.threshold 6
def modsOf (wh : Int) : List Str := match (wh.fmod 4).toNat with | 0 => [] | 1 => [Str.ofString "a"] | 2 => [Str.ofString "b.c"] | _ => [Str.ofString "a", Str.ofString "b.c"]
def foldsOf (wh : Int) : List Str := match ((wh.fdiv 4).fmod 4).toNat with | 0 => [] | 1 => [Str.ofString "/r/a"] | 2 => [Str.ofString "/r/b/../a/b"] | _ => [Str.ofString "/r/./b", Str.ofString "/a"]
theorem four {k : Int} (h0 : 0 ≤ k) (h1 : k < 4) : k.toNat = 0 ∨ k.toNat = 1 ∨ k.toNat = 2 ∨ k.toNat = 3 := by omega
theorem fmod4 (k : Int) : 0 ≤ k.fmod 4 ∧ k.fmod 4 < 4 := ⟨Int.fmod_nonneg_of_pos _ (by decide), Int.fmod_lt_of_pos _ (by decide)⟩
theorem pick4 {g h : Heap} {L : Addr} {big news : Led} {l1 l2 l3 l4 : Addr} {k : Int} (hk : 0 ≤ k ∧ k < 4) {y1 y2 y3 y4 : List (Str × Tok)} (N : News g L h big) (m1 : (l1, listOf (sls y1) 0) ∈ big) (m2 : (l2, listOf (sls y2) 0) ∈ big) (m3 : (l3, listOf (sls y3) 0) ∈ big) (m4 : (l4, listOf (sls y4) 0) ∈ big) (hs : ∀ p ∈ news, p ∈ big) :
    ∃ x ys, [l1, l2, l3, l4].getD k.toNat 0 = x ∧ News g L h ((x, listOf (sls ys) 0) :: news) ∧ ys.map (·.1) = match k.toNat with | 0 => y1.map (·.1) | 1 => y2.map (·.1) | 2 => y3.map (·.1) | _ => y4.map (·.1) := by
  have key : ∀ x ys, (x, listOf (sls ys) 0) ∈ big → News g L h ((x, listOf (sls ys) 0) :: news) := by
    intro x ys hm p hp
    rcases List.mem_cons.mp hp with rfl | hp
    · exact N _ hm
    · exact N _ (hs p hp)
  rcases four hk.1 hk.2 with e | e | e | e
  · exact ⟨l1, y1, by rw [e]; rfl, key _ _ m1, by rw [e]; rfl⟩
  · exact ⟨l2, y2, by rw [e]; rfl, key _ _ m2, by rw [e]; rfl⟩
  · exact ⟨l3, y3, by rw [e]; rfl, key _ _ m3, by rw [e]; rfl⟩
  · exact ⟨l4, y4, by rw [e]; rfl, key _ _ m4, by rw [e]; rfl⟩
local macro_rules | `(tactic| walk_at "subscriptTail") => `(tactic| (k_here; (with_reducible show wpAny _ _ (subscriptTail _ _ (Value.ref _) (Value.int (Int.fmod _ 4) _)) _ _ _); k_dflt (refine' sub_ref (as := [_, _, _, _]) ?k1 ?k2 (fmod4 _).1 (fmod4 _).2 (Nat.le_of_ble_eq_true rfl) ?_ ?k6; (case k1 => k_asm); (case k2 => k_mem); (case k6 => with_unfolding_all rfl); k_whole)))
section
variable {w : World} {b₀ : Heap} {mean : ExcName → Option Value} {mg mb : Str → Option Value} {A : Around} {s : Shared} {L fa : Addr} {cd : Value} {m : Str → Option Value} {Q : Flow → Shared → Prop}
theorem law_S0 {o1 o2 : Obj} {x1 x2 : Option Value} (W : Wd w b₀ mean mg mb) (H : Room A 20) (F : Fr b₀ L s.heap m) (N : News b₀ L s.heap [(L + 1 + 1, o1), (L + 1, o2)]) (c1 : o1.data = .cell x1) (c2 : o2.data = .cell x2)
    (ret : ∀ h' tk' mA nA nl ml o1' o2', Fr b₀ L h' m → News b₀ L h' [(L + 1 + 1, o1'), (L + 1, o2'), (mA, listOf (sls ml) 0), (nA, listOf (sls nl) 0)] → o1'.data = .cell (some (.ref mA)) → o2'.data = .cell (some (.ref nA)) → nl.map (·.1) = names8.map (·.1) → ml.map (·.1) = names8.map (·.2) → Q .next { s with heap := h', toks := tk' }) :
   wpAny (model PySem.Challenge.rw_ik0148_01.row.prog w) A (exec (nth (bodyOf lawD) 0) (lawEnv L fa cd)) Q no s := by
  refine H.wp ?_
  have KX := W.K
  have TX := W.T
  revert KX
  k_fill
  intro KX
  conv =>
    arg 3
    arg 1
    whnf
  unfold lawEnv
  conv =>
    arg 3
    arg 2
    arg 2
    whnf
  k_steps
  rename_i lN _ _ lM _ _ _ _ _ _ _ oN hN _ oM F9 N9 hM
  exact ret _ _ lM lN [(_, _), (_, _), (_, _), (_, _), (_, _), (_, _), (_, _), (_, _)] [(_, _), (_, _), (_, _), (_, _), (_, _), (_, _), (_, _), (_, _)] oM oN F9 (news_pick N9 (List.forall_mem_cons.mpr ⟨.tail _ (.tail _ (.tail _ (.head _))), List.forall_mem_cons.mpr ⟨.tail _ (.tail _ (.tail _ (.tail _ (.head _)))), List.forall_mem_cons.mpr ⟨.tail _ (.head _), List.forall_mem_cons.mpr ⟨.tail _ (.tail _ (.head _)), List.forall_mem_nil _⟩⟩⟩⟩)) hM hN rfl rfl
theorem law_S2 {news : Led} {wh : Int} {t : Tok} {f : Value} (W : Wd w b₀ mean mg mb) (H : Room A 20) (F : Fr b₀ L s.heap m) (N : News b₀ L s.heap news) (e1 : m (Str.ofString "whole") = some (.int wh t)) (e2 : m (Str.ofString "files") = some f)
    (ret : ∀ h' tk' m' mA ms, Fr b₀ L h' m' → m' (Str.ofString "whole") = some (.int wh t) → m' (Str.ofString "files") = some f → m' (Str.ofString "mods") = some (.ref mA) → News b₀ L h' ((mA, listOf (sls ms) 0) :: news) → ms.map (·.1) = modsOf wh → Q .next { s with heap := h', toks := tk' }) :
   wpAny (model PySem.Challenge.rw_ik0148_01.row.prog w) A (exec (nth (bodyOf lawD) 2) (lawEnv L fa cd)) Q no s := by
  refine H.wp ?_
  have KX := W.K
  have TX := W.T
  revert KX
  k_fill
  intro KX
  conv =>
    arg 3
    arg 1
    whnf
  unfold lawEnv
  conv =>
    arg 3
    arg 2
    arg 2
    whnf
  have F2 := fr_pins F [(Str.ofString "whole", Value.int wh t), (Str.ofString "files", f)] (by simp only [List.forall_mem_cons]; exact ⟨e1, e2, fun _ h => nomatch h⟩)
  clear F
  k_steps
  rename_i l1 _ _ l2 _ _ l3 _ _ l4 _ _ l5 _ _ _ F9 N9
  obtain ⟨x, ys, e, N10, he⟩ := pick4 (news := news) (y1 := []) (y2 := [(_, _)]) (y3 := [(_, _)]) (y4 := [(_, _), (_, _)]) (fmod4 wh) N9 (.tail _ (.tail _ (.tail _ (.tail _ (.head _))))) (.tail _ (.tail _ (.tail _ (.head _)))) (.tail _ (.tail _ (.head _))) (.tail _ (.head _)) fun p hp => .tail _ (.tail _ (.tail _ (.tail _ (.tail _ hp))))
  refine ret _ _ _ x ys F9 rfl rfl (congrArg (fun a => some (Value.ref a)) e) N10 ?_
  rw [he]; unfold modsOf
  rcases four (fmod4 wh).1 (fmod4 wh).2 with h | h | h | h <;> rw [h] <;> rfl
theorem law_S3 {news : Led} {wh : Int} {t : Tok} {f v : Value} (W : Wd w b₀ mean mg mb) (H : Room A 20) (F : Fr b₀ L s.heap m) (N : News b₀ L s.heap news) (e1 : m (Str.ofString "whole") = some (.int wh t)) (e2 : m (Str.ofString "files") = some f) (e3 : m (Str.ofString "mods") = some v)
    (ret : ∀ h' tk' m' dA ds, Fr b₀ L h' m' → m' (Str.ofString "whole") = some (.int wh t) → m' (Str.ofString "files") = some f → m' (Str.ofString "mods") = some v → m' (Str.ofString "folders") = some (.ref dA) → News b₀ L h' ((dA, listOf (sls ds) 0) :: news) → ds.map (·.1) = foldsOf wh → Q .next { s with heap := h', toks := tk' }) :
   wpAny (model PySem.Challenge.rw_ik0148_01.row.prog w) A (exec (nth (bodyOf lawD) 3) (lawEnv L fa cd)) Q no s := by
  refine H.wp ?_
  have KX := W.K
  have TX := W.T
  revert KX
  k_fill
  intro KX
  conv =>
    arg 3
    arg 1
    whnf
  unfold lawEnv
  conv =>
    arg 3
    arg 2
    arg 2
    whnf
  have F2 := fr_pins F [(Str.ofString "whole", Value.int wh t), (Str.ofString "files", f), (Str.ofString "mods", v)] (by simp only [List.forall_mem_cons]; exact ⟨e1, e2, e3, fun _ h => nomatch h⟩)
  clear F
  k_steps
  rename_i l1 _ _ l2 _ _ l3 _ _ l4 _ _ l5 _ _ _ F9 N9
  obtain ⟨x, ys, e, N10, he⟩ := pick4 (news := news) (y1 := []) (y2 := [(_, _)]) (y3 := [(_, _)]) (y4 := [(_, _), (_, _)]) (fmod4 (wh.fdiv 4)) N9 (.tail _ (.tail _ (.tail _ (.tail _ (.head _))))) (.tail _ (.tail _ (.tail _ (.head _)))) (.tail _ (.tail _ (.head _))) (.tail _ (.head _)) fun p hp => .tail _ (.tail _ (.tail _ (.tail _ (.tail _ hp))))
  refine ret _ _ _ x ys F9 rfl rfl rfl (congrArg (fun a => some (Value.ref a)) e) N10 ?_
  rw [he]; unfold foldsOf
  rcases four (fmod4 (wh.fdiv 4)).1 (fmod4 (wh.fdiv 4)).2 with h | h | h | h <;> rw [h] <;> rfl
end
end TE2
end Mine

namespace Mine
section TE3
open PySem PySem.W PyProof.Rows PySem.Calls
set_option maxRecDepth 100000
set_option maxHeartbeats 1000000
set_option pp.deepTerms false
set_option pp.deepTerms.threshold 6
local macro_rules | `(tactic| walk_at "call ref") => `(tactic| (k_here; refine Stop.intro ?_))
section
variable {w : World} {b₀ : Heap} {mean : ExcName → Option Value} {mg mb : Str → Option Value} {A : Around} {s : Shared} {L fa : Addr} {cd : Value} {m : Str → Option Value} {Q : Flow → Shared → Prop}
theorem law_S4 {news : Led} {wh : Int} {t : Tok} {f : Value} {mA dA : Addr} {ms ds : List (Str × Tok)} (W : Wd w b₀ mean mg mb) (H : Room A 24) (F : Fr b₀ L s.heap m) (N : News b₀ L s.heap ((dA, listOf (sls ds) 0) :: (mA, listOf (sls ms) 0) :: news)) (e1 : m (Str.ofString "whole") = some (.int wh t)) (e2 : m (Str.ofString "files") = some f) (e3 : m (Str.ofString "mods") = some (.ref mA)) (e4 : m (Str.ofString "folders") = some (.ref dA))
    (hms : ms.length ≤ 50) (hnd : (ms.map (·.1)).Nodup) (hds : ds.length ≤ 50) (hok : ∀ d ∈ ds, NpOk d.1)
    (ret : ∀ h' tk' m' x dx S D G oS oG n k t1 t2 t3 dss hA tA, Fr b₀ L h' m' → m' (Str.ofString "whole") = some (.int wh t) → m' (Str.ofString "files") = some f → m' (Str.ofString "mods") = some (.ref mA) → m' (Str.ofString "ignore") = some (.ref x) → m' (Str.ofString "heap") = some (.ref hA) → m' (Str.ofString "told") = some (.ref tA) →
      News b₀ L h' ((hA, listOf (refs []) 0) :: (tA, listOf (refs []) 0) :: (ignL w x dx S D G oS oG dss k n t1 t2 t3 ++ ((dA, listOf (sls ds) 0) :: (mA, listOf (sls ms) 0) :: news))) →
      (∀ p ∈ ignL w x dx S D G oS oG dss k n t1 t2 t3 ++ ((dA, listOf (sls ds) 0) :: (mA, listOf (sls ms) 0) :: news), p.1 < hA) → @LT.lt Nat _ hA tA →
      (∀ p ∈ (dA, listOf (sls ds) 0) :: (mA, listOf (sls ms) 0) :: news, p.1 < dx) → (∀ p ∈ (dA, listOf (sls ds) 0) :: (mA, listOf (sls ms) 0) :: news, p.1 ≠ x ∧ p.1 ≠ S ∧ p.1 ≠ D ∧ p.1 ≠ G) → @LT.lt Nat _ dx x → @Ne Nat S D → @Ne Nat S G → @Ne Nat D G → (@Ne Nat x S ∧ @Ne Nat x D ∧ @Ne Nat x G ∧ @Ne Nat dx S ∧ @Ne Nat dx D ∧ @Ne Nat dx G) →
      (∃ led, SetIs PySem.Challenge.rw_ik0148_01.row.prog w led oS ms ∧ (ms ≠ [] → led = ledOf w)) → dss.map (·.1) = ds.map (fun d => npOf d.1) → (G == sysModules) = false →
      (∃ t, oG.IsDictOf (PySem.strKind PySem.Challenge.rw_ik0148_01.row.prog w) [(Str.ofString "<string>", .int 1 t)]) → Q .next { s with heap := h', toks := tk' }) :
   wpAny (model PySem.Challenge.rw_ik0148_01.row.prog w) A (exec (nth (bodyOf lawD) 4) (lawEnv L fa cd)) Q no s := by
  refine H.wp ?_
  have KX := W.K
  have TX := W.T
  revert KX
  k_fill
  intro KX
  conv =>
    arg 3
    arg 1
    whnf
  unfold lawEnv
  conv =>
    arg 3
    arg 2
    arg 2
    whnf
  have F2 := fr_pins F [(Str.ofString "whole", Value.int wh t), (Str.ofString "files", f), (Str.ofString "mods", .ref mA), (Str.ofString "folders", .ref dA)] (by simp only [List.forall_mem_cons]; exact ⟨e1, e2, e3, e4, fun _ h => nomatch h⟩)
  clear F
  k_steps
  rename (Fr _ _ _ _) => F3
  rename (News _ _ _ _) => N3
  refine Stop.here (ignore_K W (fun _ _ e => e) ⟨rfl, Nat.le_of_ble_eq_true rfl, Nat.le_of_ble_eq_true rfl⟩ KX F3 N3 (.tail _ (.head _)) (.head _) hms hnd hds hok fun h2 tk2 x dx S D G oS oG n k t1 t2 t3 dss F4 N4 lt1 ne1 lt2 n1 n2 n3 n4 hset hdss hG hdict => ?_)
  clear F3 N3
  k_steps
  rename_i hA _ q1 tA _ q2 _ _ _ _ _ _ _ F5 N5
  exact ret _ _ _ x dx S D G oS oG n k t1 t2 t3 dss hA tA F5 rfl rfl rfl rfl rfl rfl (fun p hp => by
    rcases List.mem_cons.mp hp with rfl | hp
    · exact N5 _ (.tail _ (.tail _ (.head _)))
    rcases List.mem_cons.mp hp with rfl | hp
    · exact N5 _ (.tail _ (.head _))
    · exact N5 _ (.tail _ (.tail _ (.tail _ hp)))) q1 q2.1 lt1 ne1 lt2 n1 n2 n3 n4 hset hdss hG hdict
end
end TE3
end Mine

namespace Mine
section TN2
open PySem PySem.W PyProof.Rows PySem.Calls
set_option maxRecDepth 100000
set_option maxHeartbeats 1000000
def KV (kvs : List (Str × Value)) (mem : Str → Option Bool) : Prop := ∀ md, match mem md with
  | none => valueAt kvs md = none
  | some b => ∃ t, valueAt kvs md = some (.int (if b then 1 else 0) t)
theorem valueAt_snoc {kvs : List (Str × Value)} {md y : Str} {v : Value} (h : valueAt kvs md = none) : valueAt (kvs ++ [(md, v)]) y = if y = md then some v else valueAt kvs y := by
  unfold valueAt at *
  rw [List.find?_append]
  by_cases e : y = md
  · subst e
    rw [if_pos rfl]
    have : List.find? (fun kv => decide (kv.1 = y)) kvs = none := by simpa using h
    rw [this]
    simp
  · rw [if_neg e]
    have : List.find? (fun kv : Str × Value => decide (kv.1 = y)) [(md, v)] = none := by
      rw [List.find?_cons_of_neg (by simpa using fun q => e q.symm)]; rfl
    rw [this]; simp
theorem KV.old {kvs : List (Str × Value)} {mem : Str → Option Bool} (h : KV kvs mem) {md : Str} {b : Bool} (e : mem md = some b) : KV kvs (fun y => if y = md then some b else mem y) := by
  have : (fun y => if y = md then some b else mem y) = mem := by
    funext y
    by_cases q : y = md
    · subst q; rw [if_pos rfl, e]
    · rw [if_neg q]
  rw [this]; exact h
theorem KV.new {kvs : List (Str × Value)} {mem : Str → Option Bool} (h : KV kvs mem) {md : Str} {b : Bool} {t : Tok} (e : mem md = none) : KV (stored kvs md (.int (if b then 1 else 0) t)) (fun y => if y = md then some b else mem y) := by
  have hv : valueAt kvs md = none := by have := h md; rw [e] at this; exact this
  rw [stored_absent hv]
  intro y
  rw [valueAt_snoc hv]
  by_cases q : y = md
  · simp only [if_pos q]; exact ⟨t, rfl⟩
  · simp only [if_neg q]; exact h y
section
variable {w : World} {b₀ : Heap} {mean : ExcName → Option Value} {mg mb : Str → Option Value} {A : Around} {s : Shared}
theorem names_K {g : Heap} {L : Addr} {m : Str → Option Value} {pre T : List (Addr × Obj)} {x dx S D G : Addr} {oS oG : Obj} {dss ms : List (Str × Tok)} {k n : Nat} {t1 t2 t3 u1 u2 : Tok} {led : Bool} {kvs : List (Str × Value)} {mem : Str → Option Bool} {fn md : Str} {Q : Value → Shared → Prop} (W : Wd w b₀ mean mg mb) (gst : b₀.StaysIn g) (H : Room A 4)
    (F : Fr g L s.heap m) (N : News g L s.heap (pre ++ (ignL w x dx S D G oS oG dss k n t1 t2 t3 ++ T))) (off : ∀ p ∈ pre ++ T, ∀ b ∈ [x, dx, S, D, G], p.1 ≠ b)
    (hxd : @Ne Nat dx x) (hSD : @Ne Nat S D) (hSG : @Ne Nat S G) (hDG : @Ne Nat D G) (hne : @Ne Nat x S ∧ @Ne Nat x D ∧ @Ne Nat x G ∧ @Ne Nat dx S ∧ @Ne Nat dx D ∧ @Ne Nat dx G)
    (hS : SetIs PySem.Challenge.rw_ik0148_01.row.prog w led oS ms) (hled : ms ≠ [] → led = ledOf w) (hG : oG.IsDictOf (PySem.strKind PySem.Challenge.rw_ik0148_01.row.prog w) kvs) (hlo : (G == sysModules) = false)
    (hms : ms.length ≤ 50) (hds : dss.length ≤ 50) (hkz : kvs.length ≤ 1000) (hm1 : ∀ m ∈ ms, m.1.length ≤ 1000) (hd1 : ∀ d ∈ dss, d.1.length ≤ 1000) (hKV : KV kvs mem)
    (ret : ∀ h' tk' dr oG' kvs' t', Fr g L h' m → News g L h' (pre ++ (ignL w x dx S D G oS oG' dss k n t1 t2 t3 ++ T)) → oG'.IsDictOf (PySem.strKind PySem.Challenge.rw_ik0148_01.row.prog w) kvs' →
      KV kvs' (fun y => if y = md then some ((mem md).getD (ans (ms.map (·.1)) (dss.map (·.1)) fn md)) else mem y) → kvs'.length ≤ kvs.length + 1 → Q (.int (if (mem md).getD (ans (ms.map (·.1)) (dss.map (·.1)) fn md) then 1 else 0) t') { s with heap := h', toks := tk', drawn := dr }) :
    wpAny (model PySem.Challenge.rw_ik0148_01.row.prog w) A (call (.ref 163) [.ref x, .str fn u1, .str md u2]) Q no s := by
  have gb : ∀ b, g.get? b = none → b₀.get? b = none := fun b e => by
    cases q : b₀.get? b with
    | none => rfl
    | some o => rw [gst _ _ q] at e; cases e
  have five : ∀ p ∈ ignL w x dx S D G oS oG dss k n t1 t2 t3, p ∈ pre ++ (ignL w x dx S D G oS oG dss k n t1 t2 t3 ++ T) := fun p hp => List.mem_append_right _ (List.mem_append_left _ hp)
  have hn : ∀ b ∈ [x, dx, S, D, G], g.get? b = none ∧ b ≠ L := by
    intro b hb
    revert b hb
    refine all5 ?_ ?_ ?_ ?_ ?_
    · have z := N _ (five _ (.head _)); exact ⟨z.2.2, z.2.1⟩
    · have z := N _ (five _ (.tail _ (.head _))); exact ⟨z.2.2, z.2.1⟩
    · have z := N _ (five _ (.tail _ (.tail _ (.head _)))); exact ⟨z.2.2, z.2.1⟩
    · have z := N _ (five _ (.tail _ (.tail _ (.tail _ (.head _))))); exact ⟨z.2.2, z.2.1⟩
    · have z := N _ (five _ (.tail _ (.tail _ (.tail _ (.tail _ (.head _)))))); exact ⟨z.2.2, z.2.1⟩
  refine names_ct W (fun b o e => F.keep b o (gst b o e)) H (fun p hp => ⟨(N p (five p hp)).1, gb _ (N p (five p hp)).2.2⟩) hxd hSD hSG hDG hne hS hled hG hlo hms hds hkz hm1 hd1 (fun v hv h' tk' hk => ?_) (fun hv h' tk' dr oG' t t' hk hall hd' => ?_)
  · cases hm : mem md with
    | none =>
      have := hKV md
      rw [hm] at this
      rw [show valueAt kvs md = none from this] at hv
      cases hv
    | some b =>
      have := hKV md
      rw [hm] at this
      obtain ⟨t, e⟩ := this
      rw [e] at hv
      cases hv
      have r := ret h' tk' s.drawn oG kvs t (fr_stay F hk) (news_stay N hk) hG
      rw [hm] at r
      exact r (hKV.old hm) (Nat.le_succ _)
  · have hm : mem md = none := by
      cases hm : mem md with
      | none => rfl
      | some b =>
        have := hKV md
        rw [hm] at this
        obtain ⟨t, e⟩ := this
        rw [e] at hv; cases hv
    have r := ret h' tk' dr oG' _ t' ?_ ?_ hd'
    · rw [hm] at r
      refine r (hKV.new hm) ?_
      rw [stored_absent hv, List.length_append]; exact Nat.le_refl _
    · obtain ⟨oL, es, ep, hL, rL⟩ := F.ns
      exact ⟨⟨oL, es, ep, hk _ _ (fun hm => (hn _ hm).2 rfl) hL, rL⟩, fun b o e => hk b o (fun hm => by rw [(hn _ hm).1] at e; cases e) (F.keep b o e), F.above⟩
    · intro p hp
      rcases List.mem_append.mp hp with hq | hp
      · have z := N p (List.mem_append_left _ hq)
        exact ⟨hk _ _ (fun hm => off p (List.mem_append_left _ hq) _ hm rfl) z.1, z.2⟩
      rcases List.mem_append.mp hp with hq | hq
      · refine ⟨hall p hq, ?_⟩
        have : p.1 ∈ [x, dx, S, D, G] := by
          simp only [ignL, List.mem_cons, List.not_mem_nil, or_false] at hq
          rcases hq with rfl | rfl | rfl | rfl | rfl <;> simp
        exact ⟨(hn _ this).2, (hn _ this).1⟩
      · have z := N p (List.mem_append_right _ (List.mem_append_right _ hq))
        exact ⟨hk _ _ (fun hm => off p (List.mem_append_right _ hq) _ hm rfl) z.1, z.2⟩
end
end TN2
end Mine

namespace Mine
section TE5
open PySem PySem.W PyProof.Rows PySem.Calls
set_option maxRecDepth 100000
set_option maxHeartbeats 1000000
set_option pp.deepTerms false
set_option pp.deepTerms.threshold 6
def baseOf (p : Str) : Str := Txt.slice p (some (Txt.rfind p (Str.ofString "/") + 1)) none
/-- the module of a place -/
def modOf (p : Str) : Str := (names8.lookup (baseOf p)).getD (Str.ofString "")
def rowOf (k : Key) : Row := (k.1, k.2, modOf k.2)
/-- what names tells, one after the other -/
def nStep (ms ds : List Str) (st : (Str → Option Bool) × List (Row × Int)) (r : Row) : (Str → Option Bool) × List (Row × Int) :=
  let b := (st.1 r.2.2).getD (ans ms ds r.2.1 r.2.2)
  (fun y => if y = r.2.2 then some b else st.1 y, st.2 ++ [(r, if b then 1 else 0)])
def mem0 : Str → Option Bool := fun y => if y = Str.ofString "<string>" then some true else none
theorem names8_look : ∀ k < 8, names8.lookup (nameL k) = some (modL k) ∧ (nameL k, modL k) ∈ names8 ∧ (modL k).length ≤ 100 ∧ PyData.strOk (modL k) = true := by decide +kernel
theorem modOf_place {ps : List Str} {k : Nat} (hk : k < 8) (h : Combo ps (nameL k)) : modOf (placeOf ps (nameL k)) = modL k := by
  unfold modOf baseOf
  rw [h.bn, (names8_look k hk).1]; rfl
theorem reads_items {h : Heap} {val : Addr → Key} : ∀ {as : List Addr}, (∀ a ∈ as, Item h a (val a) ∧ PyData.strOk (val a).2 = true) → ∃ ds bs, ReadsAll h (as.map Value.ref) ds bs ∧ PyData.canLayAll0 ds = true ∧ PyData.depthAll ds ≤ 2 ∧ ds.length = as.length
  | [], _ => ⟨[], [], .nil, rfl, Nat.zero_le _, rfl⟩
  | a :: r, H => by
    obtain ⟨ds, bs, h1, h2, h3, h4⟩ := reads_items (as := r) fun b hb => H b (.tail _ hb)
    obtain ⟨⟨t, t', n, e⟩, ok⟩ := H a (.head _)
    refine ⟨.list [.int (val a).1, .str (val a).2] :: ds, _, ReadsAll.cons (reads_list_at e rfl rfl (ReadsAll.cons (Reads.int _ _) (ReadsAll.cons (Reads.str _ _) ReadsAll.nil))) h1, ?_, ?_, ?_⟩
    · simp only [PyData.canLayAll0, PyData.canLay0, ok, h2, Bool.and_self]
    · simp only [PyData.depthAll, PyData.depth]; omega
    · rw [List.length_cons, List.length_cons, h4]
theorem ne_nil_items {prog : Program} {w : World} {A : Around} {E : Value → Shared → Prop} {s : Shared} {a b : Addr} {g : Heap} {L : Addr} {news T : Led} {as : List Addr} {n n' : Nat} {val : Addr → Key} {Q : Value → Shared → Prop} (N : News g L s.heap news) (hm : (a, listOf (refs as) n) ∈ news) (hb : (b, listOf #[] n') ∈ news)
    (hit : ∀ a ∈ as, ∃ t1 t2 n1, (a, listOf #[.int (val a).1 t1, .str (val a).2 t2] n1) ∈ T) (hs : ∀ p ∈ T, p ∈ news) (ok : ∀ a ∈ as, PyData.strOk (val a).2 = true) (hu : A.units + 64 < cLine) (h : Q (.bool (!as.isEmpty)) s) :
    wpAny (model prog w) A (compareOp .NotEq (.ref a) (.ref b)) Q E s := by
  obtain ⟨ds, bs, h1, h2, h3, h4⟩ := reads_items (h := s.heap) (val := val) (as := as) fun a ha => ⟨by
    obtain ⟨t1, t2, n1, hm⟩ := hit a ha
    exact ⟨t1, t2, n1, (N _ (hs _ hm)).1⟩, ok a ha⟩
  refine ne_nil ⟨_, (N _ hm).1, rfl, _, rfl⟩ ⟨_, (N _ hb).1, rfl, _, rfl⟩ h1 h2 (by omega) hu ?_
  have e : ds.isEmpty = as.isEmpty := by cases ds <;> cases as <;> first | rfl | cases h4
  rw [e]; exact h
local macro_rules | `(tactic| k_mem) => `(tactic| assumption)
local macro_rules | `(tactic| walk_at "my tail") => `(tactic| first | assumption | (refine List.Mem.tail _ ?_; walk_at "my tail"))
local macro_rules | `(tactic| walk_at "call ref") => `(tactic| (k_here; refine Stop.intro ?_))
local macro_rules | `(tactic| walk_at "exec While Compare cons nil") => `(tactic| (k_here; refine Stop.intro ?_))
local macro_rules | `(tactic| walk_at "call builtin:list.append") => `(tactic| (k_here; (with_reducible show wpAny _ _ (call (Value.builtin _) [Value.ref _, Value.ref _]) _ _ _); k_dflt (refine' append_ref ?k1 ?k2 ?k3 ?k4 ?_; (case k1 => k_asm); (case k2 => k_asm); (case k3 => k_upd); (case k4 => omega); k_whole); intro h' F' N'; (try k_sweep)))
local macro_rules | `(tactic| walk_at "compareOp NotEq ref ref") => `(tactic| (k_here; (with_reducible show wpAny _ _ (compareOp CmpOp.NotEq (Value.ref _) (Value.ref _)) _ _ _); k_dflt (refine ne_nil_items (by k_asm) (by k_mem) (by k_mem) (by assumption) (by (intro p hp; walk_at "my tail")) (by assumption) (by ke_room) ?_)))
section
variable {w : World} {b₀ : Heap} {mean : ExcName → Option Value} {mg mb : Str → Option Value} {A : Around} {s : Shared} {L fa : Addr} {cd : Value} {m : Str → Option Value} {Q : Flow → Shared → Prop}
noncomputable def popRest (lt : Addr → Addr → Bool) (asr : List Addr) (x0 : Addr) : List Addr := match asr with | [] => [] | _ :: r => sup lt (x0 :: r)
theorem pop_ok {lt : Addr → Addr → Bool} (P : Pre lt) {asr : List Addr} {x0 : Addr} (h : HOrd lt (asr ++ [x0])) :
    (asr.headD x0 :: popRest lt asr x0).Perm (asr ++ [x0]) ∧ HOrd lt (popRest lt asr x0) ∧ ∀ a ∈ popRest lt asr x0, lt a (asr.headD x0) = false := by
  cases asr with
  | nil => exact ⟨.refl _, (fun i _ h => absurd h (Nat.not_lt_zero _)), fun _ h => nomatch h⟩
  | cons y r =>
    obtain ⟨r1, r2⟩ := sup_ok P h
    refine ⟨(r2.cons y).trans ?_, r1, fun a ha => ?_⟩
    · show (y :: (x0 :: r)).Perm (y :: (r ++ [x0]))
      exact (List.perm_append_comm (l₁ := [x0]) (l₂ := r)).cons y
    · have hm := r2.mem_iff.mp ha
      refine root_min_mem P (y := y) (r := r ++ [x0]) h a ?_
      rcases List.mem_cons.mp hm with rfl | hm
      · exact List.mem_append_right _ (.head _)
      · exact List.mem_append_left _ hm
/-- what the loop that pops leaves alone -/
structure PopRest (w : World) (x dx S D G hA tA : Addr) : Prop where
  dx_x : @Ne Nat dx x
  SD : @Ne Nat S D
  SG : @Ne Nat S G
  DG : @Ne Nat D G
  five : @Ne Nat x S ∧ @Ne Nat x D ∧ @Ne Nat x G ∧ @Ne Nat dx S ∧ @Ne Nat dx D ∧ @Ne Nat dx G
  hs : @Ne Nat x hA ∧ @Ne Nat dx hA ∧ @Ne Nat S hA ∧ @Ne Nat D hA ∧ @Ne Nat G hA ∧ @Ne Nat tA hA
  ts : @Ne Nat x tA ∧ @Ne Nat dx tA ∧ @Ne Nat S tA ∧ @Ne Nat D tA ∧ @Ne Nat G tA
  lo : (G == sysModules) = false
/-- what holds at the head of the loop that empties the heap -/
inductive PopI (w : World) (b₀ : Heap) (L : Addr) (s : Shared) (wh : Int) (t : Tok) (fA mA x dx S D G hA tA : Addr) (as0 : List Addr) (kd nd : Nat) (t1 t2 t3 : Tok) (oS : Obj) (ms dss : List (Str × Tok)) (val : Addr → Key) (keys : List Key) (led : Led) (k : Nat) (s' : Shared) : Prop
  | mk (h' : Heap) (tk : Nat) (dr : Drawn) (m' : Str → Option Value) (as : List Addr) (n : Nat) (ts : List Addr) (n2 : Nat) (oG : Obj) (kvs : List (Str × Value)) (mem : Str → Option Bool) (ext : Led) (pk : List Key) (outs : List (Row × Int)) (e : s' = { s with heap := h', toks := tk, drawn := dr }) (F : Fr b₀ L h' m') (P : LawPins m' wh t fA mA x hA tA)
    (N : News b₀ L h' ((hA, listOf (refs as) n) :: (tA, listOf (refs ts) n2) :: (x, instObj 166 dx) :: (dx, dictOf (ignEnt w S D G t1 t2 t3) kd) :: (S, oS) :: (D, listOf (sls dss) nd) :: (G, oG) :: (ext ++ led)))
    (hk : k = as.length) (hsub : ∀ a ∈ as, a ∈ as0) (hord : HOrd (fun a b => keylt (val a) (val b)) as) (hperm : (pk ++ as.map val).Perm keys) (hpk : pk.Pairwise (fun a b => keylt b a = false)) (hle : ∀ k ∈ pk, ∀ a ∈ as, keylt (val a) k = false)
    (hts : Fa (In4 ext) ts outs) (off : OwnOff ext [hA, tA, x, dx, S, D, G]) (hst : (mem, outs) = (pk.map rowOf).foldl (nStep (ms.map (·.1)) (dss.map (·.1))) (mem0, [])) (hKV : KV kvs mem) (hkz : kvs.length ≤ 1 + pk.length) (htl : ts.length = pk.length)
    (hG : oG.IsDictOf (PySem.strKind PySem.Challenge.rw_ik0148_01.row.prog w) kvs) : PopI w b₀ L s wh t fA mA x dx S D G hA tA as0 kd nd t1 t2 t3 oS ms dss val keys led k s'
theorem law_S6 {led : Led} {wh : Int} {t : Tok} {fA mA x dx S D G hA tA : Addr} {as0 : List Addr} {n0 nh kd nd : Nat} {t1 t2 t3 : Tok} {oS oG0 : Obj} {ms dss : List (Str × Tok)} {val : Addr → Key} {keys : List Key} {kvs0 : List (Str × Value)} {ldB : Bool} (W : Wd w b₀ mean mg mb) (H : Room A 24) (F : Fr b₀ L s.heap m) (P : LawPins m wh t fA mA x hA tA)
    (N : News b₀ L s.heap ((hA, listOf (refs as0) nh) :: (tA, listOf (refs []) n0) :: (ignL w x dx S D G oS oG0 dss kd nd t1 t2 t3 ++ led))) (hoff : OwnOff led [hA, tA, x, dx, S, D, G]) (PR : PopRest w x dx S D G hA tA)
    (hit : ∀ a ∈ as0, ∃ t1 t2 n1, (a, listOf #[.int (val a).1 t1, .str (val a).2 t2] n1) ∈ led) (hord : HOrd (fun a b => keylt (val a) (val b)) as0) (hperm : (as0.map val).Perm keys) (hkeys : ∀ k ∈ keys, ∃ xv, k = keyOf xv) (hz : keys.length ≤ 20)
    (hS : SetIs PySem.Challenge.rw_ik0148_01.row.prog w ldB oS ms) (hled : ms ≠ [] → ldB = ledOf w) (hG : oG0.IsDictOf (PySem.strKind PySem.Challenge.rw_ik0148_01.row.prog w) kvs0) (hKV : KV kvs0 mem0) (hkz : kvs0.length ≤ 1)
    (hms : ms.length ≤ 50) (hds : dss.length ≤ 50) (hm1 : ∀ m ∈ ms, m.1.length ≤ 1000) (hd1 : ∀ d ∈ dss, d.1.length ≤ 1000)
    (ret : ∀ h' tk' dr m' ts n2 ext (pk : List Key) outs, Fr b₀ L h' m' → LawPins m' wh t fA mA x hA tA → News b₀ L h' ((tA, listOf (refs ts) n2) :: (ext ++ led)) → Fa (In4 ext) ts outs → pk.Perm keys → pk.Pairwise (fun a b => keylt b a = false) → outs = ((pk.map rowOf).foldl (nStep (ms.map (·.1)) (dss.map (·.1))) (mem0, [])).2 → Q .next { s with heap := h', toks := tk', drawn := dr }) :
   wpAny (model PySem.Challenge.rw_ik0148_01.row.prog w) A (exec (nth (bodyOf lawD) 6) (lawEnv L fa cd)) Q no s := by
  refine H.wp ?_
  have KX := W.K
  have TX := W.T
  revert KX
  k_fill
  intro KX
  conv =>
    arg 3
    arg 1
    whnf
  unfold lawEnv
  conv =>
    arg 3
    arg 2
    arg 2
    whnf
  k_steps
  have hkey : ∀ k ∈ keys, PyData.strOk k.2 = true ∧ k.2.length ≤ 100 ∧ (baseOf k.2, modOf k.2) ∈ names8 ∧ (baseOf k.2).length ≤ 100 ∧ (modOf k.2).length ≤ 100 := by
    intro k hk
    obtain ⟨xv, rfl⟩ := hkeys k hk
    have h8 : ((xv.fdiv 16).fmod 8).toNat < 8 := by
      have h1 := Int.fmod_nonneg_of_pos (xv.fdiv 16) (b := 8) (by decide)
      have h2 := Int.fmod_lt_of_pos (xv.fdiv 16) (b := 8) (by decide)
      omega
    have hC := combo_at xv h8
    have hm := modOf_place h8 hC
    have hb : baseOf (keyOf xv).2 = nameL ((xv.fdiv 16).fmod 8).toNat := hC.bn
    have hL := names8_look _ h8
    refine ⟨hC.ok, hC.l4, ?_, ?_, ?_⟩
    · rw [hb]; show (_, modOf (placeOf _ _)) ∈ _; rw [hm]; exact hL.2.1
    · rw [hb]; exact names_small _ h8
    · show (modOf (placeOf _ _)).length ≤ 100; rw [hm]; exact hL.2.2.1
  refine Stop.here (while_inv (PopI w b₀ L s wh t fA mA x dx S D G hA tA as0 kd nd t1 t2 t3 oS ms dss val keys led) as0.length ⟨_, _, _, m, as0, nh, [], n0, oG0, kvs0, mem0, [], [], [], rfl, F, P, N, rfl, fun _ h => h, hord, hperm, .nil, (fun _ h => nomatch h), .nil, (fun _ h => nomatch h), rfl, hKV, hkz, rfl, hG⟩ ?_)
  rintro k s' ⟨h', tk, dr, m', as, n, ts, n2, oG, kvs, mem, ext, pk, outs, rfl, F1, P1, N1, rfl, hsub, hord1, hperm1, hpk, hle, hts, off1, hst, hKV1, hkz1, htl, hG1⟩
  clear F N P
  have F2 := fr_law F1 P1
  clear F1
  have hit1 : ∀ a ∈ as, ∃ t1 t2 n1, (a, listOf #[.int (val a).1 t1, .str (val a).2 t2] n1) ∈ ext ++ led := fun a ha => by
    obtain ⟨u1, u2, u3, hm⟩ := hit a (hsub a ha)
    exact ⟨u1, u2, u3, List.mem_append_right _ hm⟩
  have hok : ∀ a ∈ as, PyData.strOk (val a).2 = true := fun a ha => (hkey _ (hperm1.mem_iff.mp (List.mem_append_right _ (List.mem_map_of_mem ha)))).1
  obtain ⟨p1, p2, p3, p4, p5, p6, p7, p8⟩ := PR
  k_steps
  · rename (as.isEmpty = true) => hemp
    rename (Fr _ _ _ _) => F3
    rename (News _ _ _ _) => N3
    obtain rfl := List.isEmpty_iff.mp hemp
    rw [List.map_nil, List.append_nil] at hperm1
    refine ret _ _ dr _ ts n2 ext pk outs F3 ⟨rfl, rfl, rfl, rfl, rfl, rfl⟩ (fun p hp => ?_) hts hperm1 hpk (by rw [← hst])
    rcases List.mem_cons.mp hp with rfl | hp
    · exact N3 _ (.tail _ (.tail _ (.head _)))
    · exact N3 _ (.tail _ (.tail _ (.tail _ (.tail _ (.tail _ (.tail _ (.tail _ (.tail _ hp))))))))
  · rename (as.isEmpty = false) => hemp
    rename_i h3 F3 N3 hl3
    have N4 := news_pick N3 (small := (hA, listOf (refs as) n) :: (tA, listOf (refs ts) n2) :: (x, instObj 166 dx) :: (dx, dictOf (ignEnt w S D G t1 t2 t3) kd) :: (S, oS) :: (D, listOf (sls dss) nd) :: (G, oG) :: (ext ++ led)) (fun p hp => .tail _ hp)
    clear N3
    have hasne : as ≠ [] := fun e => by rw [e] at hemp; cases hemp
    obtain ⟨asr, x0, rfl⟩ : ∃ asr x0, as = asr ++ [x0] := ⟨_, _, (List.dropLast_concat_getLast hasne).symm⟩
    have hal : (asr ++ [x0]).length ≤ 20 := by
      have := hperm1.length_eq
      rw [List.length_append, List.length_map] at this
      omega
    have zh := N4 _ (.head _)
    have hpl : pk.length ≤ 20 := by
      have := hperm1.length_eq
      rw [List.length_append] at this
      omega
    have offA : ∀ p ∈ ext ++ led, ∀ b ∈ [hA, tA, x, dx, S, D, G], p.1 ≠ b := fun p hp => (List.mem_append.mp hp).elim (off1 p) (hoff p)
    refine Stop.here (heappop_ct (hp := hA) (x := x0) (as := asr) (n := n) (val := val) W (fun b o e => F3.keep b o e) ⟨rfl, Nat.le_of_ble_eq_true rfl, Nat.le_of_ble_eq_true rfl⟩ zh.2.2 zh.1 (fun a ha => ?_) (fun a ha => ?_) (by rw [List.length_append] at hal; omega) fun h4 tk4 k4 e4 => ?_)
    · obtain ⟨u1, u2, u3, hm⟩ := hit1 a ha
      exact offA _ hm _ (.head _)
    · obtain ⟨u1, u2, u3, hm⟩ := hit1 a ha
      exact ⟨u1, u2, u3, (N4 (a, listOf #[.int (val a).1 u1, .str (val a).2 u2] u3) (.tail _ (.tail _ (.tail _ (.tail _ (.tail _ (.tail _ (.tail _ hm)))))))).1⟩
    obtain ⟨q1, q2, q3⟩ := pop_ok (key_pre val) hord1
    generalize hy : asr.headD x0 = y at *
    have e4' : h4.get? hA = some (listOf (refs (popRest (fun a b => keylt (val a) (val b)) asr x0)) (n + 1)) := by cases asr <;> exact e4
    generalize has' : popRest (fun a b => keylt (val a) (val b)) asr x0 = as' at *
    have F5 := fr_kept F3 N4 (.head _) k4
    have N5 : News b₀ L h4 ((hA, listOf (refs as') (n + 1)) :: (tA, listOf (refs ts) n2) :: (x, instObj 166 dx) :: (dx, dictOf (ignEnt w S D G t1 t2 t3) kd) :: (S, oS) :: (D, listOf (sls dss) nd) :: (G, oG) :: (ext ++ led)) := by
      intro p hp
      have other : ∀ p, p ∈ (hA, listOf (refs (asr ++ [x0])) n) :: (tA, listOf (refs ts) n2) :: (x, instObj 166 dx) :: (dx, dictOf (ignEnt w S D G t1 t2 t3) kd) :: (S, oS) :: (D, listOf (sls dss) nd) :: (G, oG) :: (ext ++ led) → @Ne Nat p.1 hA → h4.get? p.1 = some p.2 ∧ p.1 ≠ L ∧ b₀.get? p.1 = none := fun p hp ne => ⟨k4 _ _ (by rw [List.mem_singleton]; exact ne) (N4 p hp).1, (N4 p hp).2⟩
      rcases List.mem_cons.mp hp with rfl | hp
      · exact ⟨e4', zh.2⟩
      refine other p (.tail _ hp) ?_
      rcases List.mem_cons.mp hp with rfl | hp
      · exact p6.2.2.2.2.2
      rcases List.mem_cons.mp hp with rfl | hp
      · exact p6.1
      rcases List.mem_cons.mp hp with rfl | hp
      · exact p6.2.1
      rcases List.mem_cons.mp hp with rfl | hp
      · exact p6.2.2.1
      rcases List.mem_cons.mp hp with rfl | hp
      · exact p6.2.2.2.1
      rcases List.mem_cons.mp hp with rfl | hp
      · exact p6.2.2.2.2.1
      · exact offA _ hp _ (.head _)
    clear F3 N4 k4 e4 e4'
    have hyas : y ∈ asr ++ [x0] := q1.mem_iff.mp (.head _)
    obtain ⟨u1, u2, u3, hym⟩ := hit1 y hyas
    have hykey : val y ∈ keys := hperm1.mem_iff.mp (List.mem_append_right _ (List.mem_map_of_mem hyas))
    obtain ⟨k1, k2, k3, k4, k5⟩ := hkey _ hykey
    refine kun_list (items := #[.int (val y).1 u1, .str (val y).2 u2]) F5 N5 ⟨_, (N5 (y, listOf #[.int (val y).1 u1, .str (val y).2 u2] u3) (.tail _ (.tail _ (.tail _ (.tail _ (.tail _ (.tail _ (.tail _ hym)))))))).1, rfl, _, rfl⟩ rfl rfl rfl fun h6 F7 N7 => ?_
    clear F5 N5
    k_steps
    rename (Fr _ _ _ _) => F8
    rename (News _ _ _ _) => N8
    refine Stop.here (basename_ct W F8.keep ⟨rfl, Nat.le_of_ble_eq_true rfl, Nat.le_of_ble_eq_true rfl⟩ (Nat.le_trans k2 (by decide)) fun h9 tk9 t9 kk9 => ?_)
    replace F8 := fr_stay F8 kk9
    replace N8 := news_stay N8 kk9
    k_steps
    rename (Fr _ _ _ _) => F9
    rename (News _ _ _ _) => N9
    refine Stop.here (splitext_ct k3 W F9.keep ⟨rfl, Nat.le_of_ble_eq_true rfl, Nat.le_of_ble_eq_true rfl⟩ fun h10 tk10 D9 v9 u4 u5 kk10 e10 e11 => ?_)
    have hD9 := allNe_mem (allNe_fresh N9 e10)
    have N10 := news_add F9 N9 kk10 e10 e11
    have F10 := fr_stay F9 kk10
    clear F9 N9
    k_steps
    rename (Fr _ _ _ _) => F11
    rename (News _ _ _ _) => N11
    refine Stop.here (names_K (pre := [_, _, _]) (T := ext ++ led) (oG := oG) (kvs := kvs) (mem := mem) (ms := ms) (dss := dss) W (fun _ _ e => e) ⟨rfl, Nat.le_of_ble_eq_true rfl, Nat.le_of_ble_eq_true rfl⟩ F11 N11 (fun p hp => ?_) p1 p2 p3 p4 p5 hS hled hG1 p8 hms hds (by omega) hm1 hd1 hKV1 fun h12 tk12 dr12 oG' kvs' t12 F12 N12 hG2 hKV2 hkz2 => ?_)
    · rcases List.mem_append.mp hp with hp | hp
      · rcases List.mem_cons.mp hp with rfl | hp
        · intro b hb
          revert b hb
          refine all5 ?_ ?_ ?_ ?_ ?_
          · exact Ne.symm (hD9 _ (.tail _ (.tail _ (.head _))))
          · exact Ne.symm (hD9 _ (.tail _ (.tail _ (.tail _ (.head _)))))
          · exact Ne.symm (hD9 _ (.tail _ (.tail _ (.tail _ (.tail _ (.head _))))))
          · exact Ne.symm (hD9 _ (.tail _ (.tail _ (.tail _ (.tail _ (.tail _ (.head _)))))))
          · exact Ne.symm (hD9 _ (.tail _ (.tail _ (.tail _ (.tail _ (.tail _ (.tail _ (.head _))))))))
        rcases List.mem_cons.mp hp with rfl | hp
        · intro b hb
          revert b hb
          refine all5 ?_ ?_ ?_ ?_ ?_
          · exact Ne.symm p6.1
          · exact Ne.symm p6.2.1
          · exact Ne.symm p6.2.2.1
          · exact Ne.symm p6.2.2.2.1
          · exact Ne.symm p6.2.2.2.2.1
        · rw [List.mem_singleton.mp hp]
          intro b hb
          revert b hb
          refine all5 ?_ ?_ ?_ ?_ ?_
          · exact Ne.symm p7.1
          · exact Ne.symm p7.2.1
          · exact Ne.symm p7.2.2.1
          · exact Ne.symm p7.2.2.2.1
          · exact Ne.symm p7.2.2.2.2
      · intro b hb
        exact offA p hp b (.tail _ (.tail _ hb))
    clear F11 N11
    have N13 : News b₀ L h12 ((hA, listOf (refs as') (n + 1)) :: (tA, listOf (refs ts) n2) :: (x, instObj 166 dx) :: (dx, dictOf (ignEnt w S D G t1 t2 t3) kd) :: (S, oS) :: (D, listOf (sls dss) nd) :: (G, oG') :: (ext ++ led)) := news_pick N12 (fun p hp => .tail _ hp)
    clear N12
    have p61 := p6.1
    have p62 := p6.2.1
    have p63 := p6.2.2.1
    have p64 := p6.2.2.2.1
    have p65 := p6.2.2.2.2.1
    have p66 := p6.2.2.2.2.2
    have p71 := p7.1
    have p72 := p7.2.1
    have p73 := p7.2.2.1
    have p74 := p7.2.2.2.1
    have p75 := p7.2.2.2.2
    have offB : OwnOff (ext ++ led) [hA, tA, x, dx, S, D, G] := offA
    k_steps
    rename_i l9 _ hl9 _ F15 N15
    have hlen : (y :: as').length = (asr ++ [x0]).length := q1.length_eq
    rw [List.length_cons] at hlen
    have hsub' : ∀ a ∈ as', a ∈ asr ++ [x0] := fun a ha => q1.mem_iff.mp (.tail _ ha)
    refine Stop.here ⟨as'.length, by omega, _, _, _, _, as', n + 1, ts ++ [l9], n2 + 1, oG', kvs', _, (l9, listOf #[.int (val y).1 u1, .str (val y).2 u2, .str (modOf (val y).2) u4, .int (if (mem (modOf (val y).2)).getD (ans (ms.map (·.1)) (dss.map (·.1)) (val y).2 (modOf (val y).2)) then 1 else 0) t12] 0) :: ext, pk ++ [val y], _, rfl, F15, ⟨rfl, rfl, rfl, rfl, rfl, rfl⟩, news_pick N15 (fun p hp => ?_), rfl, fun a ha => hsub a (hsub' a ha), q2, ?_, ?_, ?_,
      (hts.mono fun a b q => q.more).append (.cons (b := (rowOf (val y), _)) ⟨_, _, _, _, _, .head _⟩ .nil), ?_, ?_, hKV2, ?_, ?_, hG2⟩
    · rcases List.mem_cons.mp hp with rfl | hp
      · exact .tail _ (.head _)
      rcases List.mem_cons.mp hp with rfl | hp
      · exact .tail _ (.tail _ (.head _))
      rcases List.mem_cons.mp hp with rfl | hp
      · exact .tail _ (.tail _ (.tail _ (.head _)))
      rcases List.mem_cons.mp hp with rfl | hp
      · exact .tail _ (.tail _ (.tail _ (.tail _ (.head _))))
      rcases List.mem_cons.mp hp with rfl | hp
      · exact .tail _ (.tail _ (.tail _ (.tail _ (.tail _ (.head _)))))
      rcases List.mem_cons.mp hp with rfl | hp
      · exact .tail _ (.tail _ (.tail _ (.tail _ (.tail _ (.tail _ (.head _))))))
      rcases List.mem_cons.mp hp with rfl | hp
      · exact .tail _ (.tail _ (.tail _ (.tail _ (.tail _ (.tail _ (.tail _ (.head _)))))))
      rcases List.mem_cons.mp hp with rfl | hp
      · exact .head _
      · exact .tail _ (.tail _ (.tail _ (.tail _ (.tail _ (.tail _ (.tail _ (.tail _ hp)))))))
    · rw [List.append_assoc]
      exact ((q1.map val).append_left pk).trans hperm1
    · rw [List.pairwise_append]
      refine ⟨hpk, List.pairwise_singleton _ _, fun a ha b hb => ?_⟩
      rw [List.mem_singleton.mp hb]
      exact hle a ha y hyas
    · intro k hk a ha
      rcases List.mem_append.mp hk with hk | hk
      · exact hle k hk a (hsub' a ha)
      · rw [List.mem_singleton.mp hk]; exact q3 a ha
    · obtain ⟨z1, z2, z3, z4, z5, z6, z7, z8⟩ := hl9
      refine ownOff_cons (fun b hb => ?_) off1
      revert b hb
      refine all7 ?_ ?_ ?_ ?_ ?_ ?_ ?_
      · exact Nat.ne_of_gt z1
      · exact Nat.ne_of_gt z2
      · exact Nat.ne_of_gt z3
      · exact Nat.ne_of_gt z4
      · exact Nat.ne_of_gt z5
      · exact Nat.ne_of_gt z6
      · exact Nat.ne_of_gt z7
    · rw [List.map_append, List.foldl_append, ← hst]; rfl
    · rw [List.length_append, List.length_singleton]; omega
    · rw [List.length_append, List.length_append, htl]; rfl
end
end TE5
end Mine

namespace Mine
section TPS
open PySem PySem.W PyProof.Rows PySem.Calls
set_option maxRecDepth 100000
set_option maxHeartbeats 1000000
set_option linter.unusedVariables false
/-- a sort's tree, run by the order of f -/
noncomputable def wpP {α : Type} (n : Nat) (f : Nat → Int) (Q : α → Prop) : KasT α → Prop
  | .ret a => Q a
  | .ask i j k => i < n ∧ j < n ∧ wpP n f Q (k (decide (f i < f j)))
theorem wpP_mono {α : Type} {n : Nat} {f : Nat → Int} {Q Q' : α → Prop} (h : ∀ a, Q a → Q' a) : ∀ {t : KasT α}, wpP n f Q t → wpP n f Q' t
  | .ret a, q => h a q
  | .ask i j k, q => ⟨q.1, q.2.1, wpP_mono h q.2.2⟩
theorem wpP_bind {α β : Type} {n : Nat} {f : Nat → Int} {Q : β → Prop} {g : α → KasT β} : ∀ {t : KasT α}, wpP n f (fun a => wpP n f Q (g a)) t → wpP n f Q (t.bind g)
  | .ret a, q => q
  | .ask i j k, q => ⟨q.1, q.2.1, wpP_bind q.2.2⟩
section
variable {n : Nat} {f : Nat → Int} {p : Array Nat}
def PG (f : Nat → Int) (p : Array Nat) (i : Nat) : Int := f (p.getD i 0)
def PSo (f : Nat → Int) (p : Array Nat) (k : Nat) : Prop := ∀ i j, i ≤ j → j < k → PG f p i ≤ PG f p j
def PNi (f : Nat → Int) (p : Array Nat) (k : Nat) : Prop := ∀ i j, i ≤ j → j < k → PG f p j ≤ PG f p i
abbrev PP (n : Nat) (p : Array Nat) : Prop := p.toList.Perm (List.range n)
theorem PP.size (h : PP n p) : p.size = n := by have := h.length_eq; simpa using this
theorem PP.lt (h : PP n p) (hn : 0 < n) (i : Nat) : p.getD i 0 < n := by
  by_cases hi : i < p.size
  · have e : p.getD i 0 = p[i] := by simp [Array.getD, hi]
    rw [e]
    exact List.mem_range.mp (h.mem_iff.mp (by simp))
  · have e : p.getD i 0 = 0 := by simp [Array.getD, hi]
    rw [e]; exact hn
theorem PG_congr {q : Array Nat} {i j : Nat} (h : p[i]? = q[j]?) : PG f p i = PG f q j := by
  unfold PG
  rw [Array.getD_eq_getD_getElem?, Array.getD_eq_getD_getElem?, h]
theorem PG_bubble {src d : Nat} (hs : src < p.size) (hd : d ≤ src) (k : Nat) : PG f (bubble p src d) k = if k = src - d then PG f p src else if src - d < k ∧ k ≤ src then PG f p (k - 1) else PG f p k := by
  have e := getElem?_bubble hs d hd k
  by_cases h1 : k = src - d
  · rw [if_pos h1] at e ⊢; exact PG_congr e
  · rw [if_neg h1] at e ⊢
    by_cases h2 : src - d < k ∧ k ≤ src
    · rw [if_pos h2] at e ⊢; exact PG_congr e
    · rw [if_neg h2] at e ⊢; exact PG_congr e
theorem PG_rev {i j : Nat} (hj : j ≤ p.size) (k : Nat) : PG f (kas_rev p i j) k = if i ≤ k ∧ k < j then PG f p (i + j - 1 - k) else PG f p k := by
  have e : (kas_rev p i j)[k]? = _ := getElem?_mirror_all (i := i) hj k
  by_cases h1 : i ≤ k ∧ k < j
  · rw [if_pos h1] at e ⊢; exact PG_congr e
  · rw [if_neg h1] at e ⊢; exact PG_congr e
theorem PG_rev_eq {i j : Nat} (hj : j ≤ p.size) (he : ∀ k, i ≤ k → k < j → PG f p k = PG f p (j - 1)) (k : Nat) : PG f (kas_rev p i j) k = PG f p k := by
  rw [PG_rev hj]
  split
  · rw [he _ (by omega) (by omega), he k (by omega) (by omega)]
  · rfl
theorem PP_rev (h : PP n p) (i j : Nat) : PP n (kas_rev p i j) := (Array.perm_iff_toList_perm.mp (mirror_perm p i j _)).trans h
theorem PP_bubble (h : PP n p) (s d : Nat) : PP n (bubble p s d) := (Array.perm_iff_toList_perm.mp (bubble_perm p s d)).trans h
theorem asc_ok (hp : PP n p) (hn : 0 < n) : ∀ (fu a : Nat), 1 ≤ a → PSo f p a → wpP n f (fun m => a ≤ m ∧ m ≤ a + fu ∧ PSo f p m ∧ (m = a + fu ∨ PG f p m < PG f p (m - 1))) (kas_asc p fu a)
  | 0, a, h1, hs => ⟨Nat.le_refl _, Nat.le_refl _, hs, .inl rfl⟩
  | fu + 1, a, h1, hs => by
    refine ⟨hp.lt hn _, hp.lt hn _, ?_⟩
    by_cases h : f (p.getD a 0) < f (p.getD (a - 1) 0)
    · rw [decide_eq_true h]; simp only [if_true]
      exact ⟨Nat.le_refl _, by omega, hs, .inr h⟩
    · rw [decide_eq_false h]; simp only [Bool.false_eq_true, if_false]
      refine wpP_mono (fun m q => ⟨by omega, by omega, q.2.2.1, q.2.2.2.imp (fun e => by omega) id⟩) (asc_ok hp hn fu (a + 1) (by omega) fun i j hij hj => ?_)
      have hl : PG f p (a - 1) ≤ PG f p a := Int.not_lt.mp h
      by_cases hja : j < a
      · exact hs i j hij hja
      · have e : j = a := by omega
        subst e
        by_cases hi : i = j
        · subst hi; exact Int.le_refl _
        · exact Int.le_trans (hs i (j - 1) (by omega) (by omega)) hl
theorem desc_ok (hn : 0 < n) : ∀ (fu : Nat) (p : Array Nat) (a q : Nat), PP n p → 1 ≤ a → a + fu ≤ n → PNi f p a → q + 1 ≤ a → (∀ i, a - (q + 1) ≤ i → i < a → PG f p i = PG f p (a - 1)) →
    wpP n f (fun r => PP n r.1 ∧ a ≤ r.2.1 ∧ r.2.1 ≤ a + fu ∧ PNi f r.1 r.2.1 ∧ r.2.2 + 1 ≤ r.2.1 ∧ (∀ i, r.2.1 - (r.2.2 + 1) ≤ i → i < r.2.1 → PG f r.1 i = PG f r.1 (r.2.1 - 1))) (kas_desc fu p a q)
  | 0, p, a, q, hp, h1, hz, hs, hq, he => ⟨hp, Nat.le_refl _, Nat.le_refl _, hs, hq, he⟩
  | fu + 1, p, a, q, hp, h1, hz, hs, hq, he => by
    have hsz := hp.size
    refine ⟨hp.lt hn _, hp.lt hn _, ?_⟩
    by_cases h : f (p.getD a 0) < f (p.getD (a - 1) 0)
    · rw [decide_eq_true h]; simp only [if_true]
      have hl : PG f p a < PG f p (a - 1) := h
      have step : ∀ q : Array Nat, (∀ k, PG f q k = PG f p k) → PNi f q (a + 1) := by
        intro q hk i j hij hj
        rw [hk, hk]
        by_cases hja : j < a
        · exact hs i j hij hja
        · have e : j = a := by omega
          subst e
          by_cases hi : i = j
          · subst hi; exact Int.le_refl _
          · exact Int.le_trans (Int.le_of_lt hl) (hs i (j - 1) (by omega) (by omega))
      by_cases hq0 : q > 0
      · rw [if_pos hq0]
        refine wpP_mono (fun r z => ⟨z.1, by omega, by omega, z.2.2.2⟩) (desc_ok hn fu _ (a + 1) 0 (PP_rev hp _ _) (by omega) (by omega) (step _ (PG_rev_eq (by omega) he)) (by omega) fun i h1 h2 => by congr 1; omega)
      · rw [if_neg hq0]
        refine wpP_mono (fun r z => ⟨z.1, by omega, by omega, z.2.2.2⟩) (desc_ok hn fu _ (a + 1) 0 hp (by omega) (by omega) (step _ fun _ => rfl) (by omega) fun i h1 h2 => by congr 1; omega)
    · rw [decide_eq_false h]; simp only [Bool.false_eq_true, if_false]
      have hl : PG f p (a - 1) ≤ PG f p a := Int.not_lt.mp h
      refine ⟨hp.lt hn _, hp.lt hn _, ?_⟩
      by_cases h' : f (p.getD (a - 1) 0) < f (p.getD a 0)
      · rw [decide_eq_true h']; simp only [if_true]
        exact ⟨hp, Nat.le_refl _, Nat.le_add_right _ _, hs, hq, he⟩
      · rw [decide_eq_false h']; simp only [Bool.false_eq_true, if_false]
        have hl' : PG f p a ≤ PG f p (a - 1) := Int.not_lt.mp h'
        have ee : PG f p a = PG f p (a - 1) := by omega
        refine wpP_mono (fun r z => ⟨z.1, by omega, by omega, z.2.2.2⟩) (desc_ok hn fu p (a + 1) (q + 1) hp (by omega) (by omega) (fun i j hij hj => ?_) (by omega) fun i h1 h2 => ?_)
        · by_cases hja : j < a
          · exact hs i j hij hja
          · have e : j = a := by omega
            subst e
            by_cases hi : i = j
            · subst hi; exact Int.le_refl _
            · rw [ee]; exact hs i (j - 1) (by omega) (by omega)
        · rw [show a + 1 - 1 = a by omega]
          by_cases hi : i = a
          · subst hi; rfl
          · rw [ee]; exact he i (by omega) (by omega)
theorem tail3_ok (hn : 0 < n) {a : Nat} (hp : PP n p) (h1 : 1 ≤ a) (hz : a ≤ n) (hs : PNi f p a) : wpP n f (fun r => PP n r.2 ∧ 1 ≤ r.1 ∧ r.1 ≤ n ∧ PSo f r.2 r.1) (kas_tail3 a n p) := by
  have hsz := hp.size
  unfold kas_tail3
  refine wpP_bind (wpP_mono (fun m z => ⟨PP_rev hp _ _, by omega, by omega, z.2.2.1⟩) (asc_ok (PP_rev hp 0 a) hn (n - a) a h1 fun i j hij hj => ?_))
  rw [PG_rev (by omega), PG_rev (by omega), if_pos (by omega), if_pos (by omega)]
  exact hs _ _ (by omega) (by omega)
theorem descPart_ok (hn : 0 < n) {a : Nat} (hp : PP n p) (hz : a + 1 ≤ n) (hs : PNi f p (a + 1)) : wpP n f (fun r => PP n r.2 ∧ 1 ≤ r.1 ∧ r.1 ≤ n ∧ PSo f r.2 r.1) (kas_descPart a n p) := by
  unfold kas_descPart
  refine wpP_bind (wpP_mono (fun r z => ?_) (desc_ok hn (n - (a + 1)) p (a + 1) 0 hp (by omega) (by omega) hs (by omega) fun i h1 h2 => by congr 1; omega))
  obtain ⟨z1, z2, z3, z4, z5, z6⟩ := z
  have hsz := z1.size
  by_cases hq : r.2.2 > 0
  · rw [if_pos hq]
    refine tail3_ok hn (PP_rev z1 _ _) (by omega) (by omega) fun i j hij hj => ?_
    rw [PG_rev_eq (by omega) z6, PG_rev_eq (by omega) z6]
    exact z4 i j hij hj
  · rw [if_neg hq]
    exact tail3_ok hn z1 (by omega) (by omega) z4
theorem count_ok (hn : 0 < n) (hp : PP n p) : wpP n f (fun r => PP n r.2 ∧ 1 ≤ r.1 ∧ r.1 ≤ n ∧ PSo f r.2 r.1) (kas_count n p) := by
  unfold kas_count
  have hsz := hp.size
  refine wpP_bind (wpP_mono (fun m z => ?_) (asc_ok hp hn (n - 1) 1 (Nat.le_refl _) fun i j hij hj => by have : i = j := (by omega); subst this; exact Int.le_refl _))
  obtain ⟨z1, z2, z3, z4⟩ := z
  by_cases hm : m = n
  · rw [if_pos (by simpa using hm)]
    exact ⟨hp, z1, by omega, z3⟩
  · rw [if_neg (by simpa using hm)]
    have hlt : PG f p m < PG f p (m - 1) := z4.resolve_left (by omega)
    by_cases hg : m > 1
    · rw [if_pos hg]
      refine ⟨hp.lt hn _, hp.lt hn _, ?_⟩
      by_cases h : f (p.getD 0 0) < f (p.getD (m - 1) 0)
      · rw [decide_eq_true h]; simp only [if_true]
        exact ⟨hp, z1, by omega, z3⟩
      · rw [decide_eq_false h]; simp only [Bool.false_eq_true, if_false]
        have hl : PG f p (m - 1) ≤ PG f p 0 := Int.not_lt.mp h
        have hall : ∀ k, 0 ≤ k → k < m → PG f p k = PG f p (m - 1) := by
          intro k _ hk
          have a1 := z3 0 k (by omega) hk
          have a2 := z3 k (m - 1) (by omega) (by omega)
          omega
        refine descPart_ok hn (PP_rev hp _ _) (by omega) fun i j hij hj => ?_
        rw [PG_rev_eq (by omega) hall, PG_rev_eq (by omega) hall]
        by_cases hjm : j < m
        · rw [hall i (by omega) (by omega), hall j (by omega) hjm]; exact Int.le_refl _
        · have e : j = m := by omega
          subst e
          by_cases hi : i = j
          · subst hi; exact Int.le_refl _
          · rw [hall i (by omega) (by omega)]; exact Int.le_of_lt hlt
    · rw [if_neg hg]
      have e : m = 1 := by omega
      subst e
      refine descPart_ok hn hp (by omega) fun i j hij hj => ?_
      by_cases hi : i = j
      · subst hi; exact Int.le_refl _
      · have e1 : i = 0 := by omega
        have e2 : j = 1 := by omega
        subst e1; subst e2
        exact Int.le_of_lt hlt
theorem place_ok (hn : 0 < n) (hp : PP n p) {k : Nat} (hs : PSo f p k) : ∀ (fu l r : Nat), l ≤ r → r ≤ k → r - l ≤ fu → (∀ i, i < l → PG f p i ≤ PG f p k) → (∀ i, r ≤ i → i < k → PG f p k < PG f p i) →
    wpP n f (fun m => m ≤ k ∧ (∀ i, i < m → PG f p i ≤ PG f p k) ∧ (∀ i, m ≤ i → i < k → PG f p k < PG f p i)) (kas_place p k fu l r)
  | 0, l, r, h1, h2, h3, hlo, hhi => by
    have : l = r := by omega
    subst this
    exact ⟨h2, hlo, hhi⟩
  | fu + 1, l, r, h1, h2, h3, hlo, hhi => by
    unfold kas_place
    by_cases hge : l ≥ r
    · rw [if_pos hge]
      have : l = r := by omega
      subst this
      exact ⟨h2, hlo, hhi⟩
    · rw [if_neg hge]
      refine ⟨hp.lt hn _, hp.lt hn _, ?_⟩
      by_cases h : f (p.getD k 0) < f (p.getD ((l + r) / 2) 0)
      · rw [decide_eq_true h]; simp only [if_true]
        refine place_ok hn hp hs fu l ((l + r) / 2) (by omega) (by omega) (by omega) hlo fun i h1 h2 => ?_
        have hl : PG f p k < PG f p ((l + r) / 2) := h
        exact Int.lt_of_lt_of_le hl (hs _ _ h1 h2)
      · rw [decide_eq_false h]; simp only [Bool.false_eq_true, if_false]
        have hl : PG f p ((l + r) / 2) ≤ PG f p k := Int.not_lt.mp h
        refine place_ok hn hp hs fu ((l + r) / 2 + 1) r (by omega) (by omega) (by omega) (fun i h1 => ?_) hhi
        exact Int.le_trans (hs i ((l + r) / 2) (by omega) (by omega)) hl
theorem bin_ok (hn : 0 < n) : ∀ (fu : Nat) (p : Array Nat) (k : Nat), PP n p → k + fu ≤ n → PSo f p k → wpP n f (fun q => PP n q ∧ PSo f q (k + fu)) (kas_bin fu p k)
  | 0, p, k, hp, hz, hs => ⟨hp, hs⟩
  | fu + 1, p, k, hp, hz, hs => by
    have hsz := hp.size
    refine wpP_bind (wpP_mono (fun l z => ?_) (place_ok hn hp hs k 0 k (Nat.zero_le _) (Nat.le_refl _) (by omega) (fun i h => by omega) (fun i h1 h2 => by omega)))
    obtain ⟨z1, z2, z3⟩ := z
    refine wpP_mono (fun q z => ⟨z.1, by rw [show k + (fu + 1) = k + 1 + fu by omega]; exact z.2⟩) (bin_ok hn fu _ (k + 1) (PP_bubble hp _ _) (by omega) fun i j hij hj => ?_)
    rw [PG_bubble (by omega) (by omega), PG_bubble (by omega) (by omega), show k - (k - l) = l by omega]
    repeat' split
    all_goals first
      | (exfalso; omega)
      | exact Int.le_refl _
      | exact z2 _ (by omega)
      | exact Int.le_of_lt (z3 _ (by omega) (by omega))
      | exact hs _ _ (by omega) (by omega)
theorem sort_ok (hn : 0 < n) : wpP n f (fun q => PP n q ∧ PSo f q n) (kas_sort n) := by
  unfold kas_sort
  refine wpP_bind (wpP_mono (fun r z => ?_) (count_ok hn (p := List.toArray (List.range n)) (by simp [PP])))
  obtain ⟨z1, z2, z3, z4⟩ := z
  by_cases h : r.1 < n
  · rw [if_pos h]
    have e : max r.1 1 = r.1 := by omega
    rw [e]
    refine wpP_mono (fun q z => ⟨z.1, ?_⟩) (bin_ok hn (n - r.1) r.2 r.1 z1 (by omega) z4)
    have := z.2
    rwa [show r.1 + (n - r.1) = n by omega] at this
  · rw [if_neg h]
    have e : r.1 = n := by omega
    rw [e] at z4
    exact ⟨z1, z4⟩
end
end TPS
end Mine

namespace Mine
section TSL
open PySem PySem.W PyProof.Rows PySem.Calls
set_option maxRecDepth 100000
set_option maxHeartbeats 1000000
set_option linter.unusedVariables false
theorem countP_lt {p q : Nat → Bool} : ∀ {l : List Nat}, (∀ x ∈ l, p x = true → q x = true) → (∃ x ∈ l, q x = true ∧ p x = false) → l.countP p < l.countP q
  | [], _, ⟨x, h, _⟩ => nomatch h
  | a :: r, h, ⟨x, hx, h1, h2⟩ => by
    have hle : r.countP p ≤ r.countP q := List.countP_mono_left fun y hy => h y (.tail _ hy)
    rw [List.countP_cons, List.countP_cons]
    rcases List.mem_cons.mp hx with rfl | hx
    · rw [h1, h2]; simp; omega
    · have ih := countP_lt (l := r) (fun y hy => h y (.tail _ hy)) ⟨x, hx, h1, h2⟩
      have ha := h a (.head _)
      cases hp : p a with
      | false => cases hq : q a <;> simp <;> omega
      | true => rw [ha hp]; simp; omega
theorem rank {lt : Nat → Nat → Bool} (n : Nat) (P : Pre lt) : ∃ f : Nat → Int, ∀ i j, i < n → j < n → lt i j = decide (f i < f j) := by
  refine ⟨fun i => ((List.range n).countP fun k => lt k i : Nat), fun i j hi hj => ?_⟩
  cases h : lt i j with
  | true =>
    have : (List.range n).countP (fun k => lt k i) < (List.range n).countP (fun k => lt k j) := by
      refine countP_lt (fun k _ hk => ?_) ⟨i, List.mem_range.mpr hi, h, ?_⟩
      · cases hq : lt k j with
        | true => rfl
        | false => have := P.tr _ _ _ hq (P.asy _ _ hk); rw [h] at this; cases this
      · cases hq : lt i i with
        | false => rfl
        | true => have := P.asy _ _ hq; rw [hq] at this; cases this
    exact (decide_eq_true (by dsimp only; omega)).symm
  | false =>
    have : (List.range n).countP (fun k => lt k j) ≤ (List.range n).countP (fun k => lt k i) := by
      refine List.countP_mono_left fun k _ hk => ?_
      cases hq : lt k i with
      | true => rfl
      | false => have := P.tr _ _ _ h hq; rw [hk] at this; cases this
    exact (decide_eq_false (by dsimp only; omega)).symm
theorem kasWp_of {α : Type} {cmp : Nat → Nat → (Bool → Shared → Prop) → Shared → Prop} {n : Nat} {f : Nat → Int} {s : Shared} {P : α → Prop} {Q : α → Shared → Prop} (ask : ∀ i j, i < n → j < n → ∀ C : Bool → Shared → Prop, C (decide (f i < f j)) s → cmp i j C s) (hq : ∀ a, P a → Q a s) : ∀ {t : KasT α}, wpP n f P t → t.kasWp cmp Q s
  | .ret a, h => hq a h
  | .ask i j k, h => ask i j h.1 h.2.1 _ (kasWp_of ask hq h.2.2)
section
variable {prog : Program} {w : World} {A : Around} {E : Value → Shared → Prop} {s : Shared}
theorem keyLt_rows {M : Str → Str} {a b : Addr} {ka kb : Key} {t1 t2 t3 u1 u2 u3 : Tok} {n1 n2 : Nat} {Q : Bool → Shared → Prop} (hu : A.units < cLine) (ha : s.heap.get? a = some (listOf #[.int ka.1 t1, .str ka.2 t2, .str (M ka.2) t3] n1)) (hb : s.heap.get? b = some (listOf #[.int kb.1 u1, .str kb.2 u2, .str (M kb.2) u3] n2))
    (h : Q (keylt ka kb) s) : wpAny (model prog w) A (keyLt' oneType' (.ref a) (.ref b)) Q E s := by
  have tl : s.TypeIs (.ref a) "list" := ⟨_, ha, rfl⟩
  have e : lexlt (#[Value.int ka.1 t1, Value.str ka.2 t2, Value.str (M ka.2) t3].toList.map skel) (#[Value.int kb.1 u1, Value.str kb.2 u2, Value.str (M kb.2) u3].toList.map skel) = keylt ka kb := by
    simp only [List.map_cons, List.map_nil, skel, lexlt, keylt, klt, Sum.inl.injEq, Sum.inr.injEq]
    by_cases h1 : ka.1 = kb.1
    · rw [if_pos h1, if_pos h1]
      by_cases h2 : ka.2 = kb.2
      · rw [if_pos h2, if_pos h2, h2, if_pos rfl]
      · rw [if_neg h2, if_neg h2]
    · rw [if_neg h1, if_neg h1]
  rw [keyLt'_oneType, oneLt'_eq]
  simp only [if_true]
  refine wpAny_bind (wpAny_cRoomFor hu ?_)
  refine wpAny_bind (wpAny_callSpecialIfBound?_slot tl F.slot_list_lt (call_meets F.slot_list_lt tl F.entry_list_lt (F.args_list_lt_2 _ _) (list_lt_meets a b #[Value.int ka.1 t1, Value.str ka.2 t2, Value.str (M ka.2) t3] #[Value.int kb.1 u1, Value.str kb.2 u2, Value.str (M kb.2) u3] n1 n2 rfl (fun j h1 h2 => ?_)) ⟨ha, hb, ?_⟩))
  · match j, h1 with
    | 0, _ => exact .inl ⟨_, _, _, _, rfl, rfl⟩
    | 1, _ => exact .inr ⟨_, _, _, _, rfl, rfl⟩
    | 2, _ => exact .inr ⟨_, _, _, _, rfl, rfl⟩
  · rw [e]
    exact wpAny_truthy_bool h
/-- sorted over lists of an int and two texts, the last by the one ahead of it -/
theorem sorted_rows {M : Str → Str} {g : Heap} {L l : Addr} {m : Str → Option Value} {news T : Led} {as : List Addr} {val : Addr → Key} {Q : Value → Shared → Prop} (F : Fr g L s.heap m) (N : News g L s.heap news) (hl : s.heap.IsList l (refs as)) (h2 : 2 ≤ as.length) (h64 : as.length < 64) (hu : A.in1.in1.units < cLine)
    (hit : ∀ a ∈ as, ∃ t1 t2 t3 n1, (a, listOf #[.int (val a).1 t1, .str (val a).2 t2, .str (M (val a).2) t3] n1) ∈ T) (hs : ∀ p ∈ T, p ∈ news)
    (ret : ∀ D as' c h', Fr g L h' m → News g L h' ((D, listOf (refs as') c) :: news) → as'.Perm as → as'.Pairwise (fun a b => keylt (val b) (val a) = false) → Q (.ref D) { s with heap := h' }) :
    wpAny (model prog w) A (call (.builtin "sorted") [.ref l]) Q E s := by
  have hlen : (as.map Value.ref).length = as.length := List.length_map _
  refine kat_sorted (vs := as.map Value.ref) F N hl (by rw [hlen]; exact h2) (by rw [hlen]; exact h64) fun D e1 h' F' N' hlt => ?_
  have hget : ∀ a ∈ as, ∃ t1 t2 t3 n1, h'.get? a = some (listOf #[.int (val a).1 t1, .str (val a).2 t2, .str (M (val a).2) t3] n1) := fun a ha => by
    obtain ⟨t1, t2, t3, n1, hm⟩ := hit a ha
    exact ⟨t1, t2, t3, n1, (N' _ (.tail _ (hs _ hm))).1⟩
  refine kas_kind (T := .type "list") (by rw [hlen]; exact h2) (fun v hv => ?_) (by decide) (by decide) ?_
  · obtain ⟨a, ha, rfl⟩ := List.mem_map.mp hv
    obtain ⟨t1, t2, t3, n1, e⟩ := hget a ha
    exact (Looks.ld e).andThen .now
  · rw [hlen]
    obtain ⟨f, hf⟩ := rank (lt := fun i j => keylt (val (as.getD i 0)) (val (as.getD j 0))) as.length ⟨fun a b c => (key_pre val).tr _ _ _, fun a b => (key_pre val).asy _ _⟩
    have gd : ∀ i, i < as.length → (as.map Value.ref).getD i Value.none = .ref (as.getD i 0) ∧ as.getD i 0 ∈ as := fun i hi => ⟨by simp [hi], getD_mem hi⟩
    refine kasWp_of (fun i j hi hj C hC => ?_) (fun p hp => ?_) (sort_ok (f := f) (n := as.length) (by omega))
    · unfold kas_ask
      rw [(gd i hi).1, (gd j hj).1]
      obtain ⟨t1, t2, t3, n1, e1⟩ := hget _ (gd i hi).2
      obtain ⟨u1, u2, u3, n2, e2⟩ := hget _ (gd j hj).2
      refine keyLt_rows (M := M) hu e1 e2 ?_
      rw [show keylt (val (as.getD i 0)) (val (as.getD j 0)) = decide (f i < f j) from hf i j hi hj]
      exact hC
    · obtain ⟨hp1, hp2⟩ := hp
      have hsz := hp1.size
      have hlt' : ∀ i ∈ p.toList, i < as.length := fun i hi => List.mem_range.mp (hp1.mem_iff.mp hi)
      have eout : (p.toList.map fun i => (as.map Value.ref).getD i Value.none) = (p.toList.map fun i => as.getD i 0).map Value.ref := by
        rw [List.map_map]
        exact List.map_congr_left fun i hi => (gd i (hlt' i hi)).1
      rw [eout]
      have hperm : (p.toList.map fun i => as.getD i 0).Perm as := by
        have e : (List.range as.length).map (fun i => as.getD i 0) = as := by
          apply List.ext_getElem?
          intro k
          rw [List.getElem?_map]
          by_cases hk : k < as.length
          · simp [hk]
          · simp [hk]
        have := hp1.map (fun i => as.getD i 0)
        rwa [e] at this
      refine KasFin.intro F' N' (UpdF.head fun q hq => Nat.ne_of_lt (hlt q hq)) fun h'' c F'' N'' => ret D _ c h'' F'' N'' hperm ?_
      rw [List.pairwise_map, List.pairwise_iff_getElem]
      intro i j hi hj hij
      have hi' : i < p.size := by simpa using hi
      have hj' : j < p.size := by simpa using hj
      have z := hp2 i j (Nat.le_of_lt hij) (by omega)
      unfold PG at z
      have e1 : p.getD i 0 = p.toList[i] := by simp [Array.getD, hi']
      have e2 : p.getD j 0 = p.toList[j] := by simp [Array.getD, hj']
      rw [e1, e2] at z
      rw [show keylt (val (as.getD p.toList[j] 0)) (val (as.getD p.toList[i] 0)) = decide (f p.toList[j] < f p.toList[i]) from hf _ _ (hlt' _ (List.getElem_mem _)) (hlt' _ (List.getElem_mem _))]
      exact decide_eq_false (by omega)
end
end TSL
end Mine

namespace Mine
section TE6
open PySem PySem.W PyProof.Rows PySem.Calls
set_option maxRecDepth 100000
set_option maxHeartbeats 1000000
set_option pp.deepTerms false
set_option pp.deepTerms.threshold 6
local macro_rules | `(tactic| k_mem) => `(tactic| assumption)
local macro_rules | `(tactic| walk_at "eval Name") => `(tactic| (k_here; (with_reducible show wpAny _ _ (eval (PySem.Expr.Name _ _) (compEnvC _ _ _ _)) _ _ _); k_dflt (first
  | (refine' nameC_L ?F ?v ?_ ?a ?b ?d; (case F => k_asm); (case a => rfl); (case b => rfl); (case d => decide); (case v => rfl); k_whole)
  | (refine' nameC_F ?N ?c ?m ?e ?_ ?a ?b ?d ?f; (case N => k_asm); (case c => rfl); (case m => k_mem); (case e => k_asm); (case a => rfl); (case b => rfl); (case d => decide); (case f => decide); k_whole)
  | (refine' nameC_C ?N ?c ?m ?e ?_ ?a ?b ?d; (case N => k_asm); (case c => rfl); (case m => k_mem); (case e => k_asm); (case a => rfl); (case b => rfl); (case d => decide); k_whole)
  | (refine' nameC_G ?F ?X ?T ?e ?_ ?g ?a ?b ?d; (case F => k_asm); (case X => k_asm); (case T => k_asm); (case g => rfl); (case a => rfl); (case b => rfl); (case d => decide); (case e => k_is); k_whole)
  | (refine' nameC_B ?F ?X ?T ?e ?hv ?hn ?_ ?g ?bb ?a ?b ?d; (case F => k_asm); (case X => k_asm); (case T => k_asm); (case g => rfl); (case bb => rfl); (case a => rfl); (case b => rfl); (case d => decide); (case e => k_is); (case hv => rfl); (case hn => decide); k_whole))))
local macro_rules | `(tactic| walk_at "storeName") => `(tactic| (k_here; (with_reducible show wpAny _ _ (storeName (compEnvC _ _ _ _) _ _) _ _ _); k_dflt (refine' storeC_L ?F ?N ?_ ?a ?b; (case F => k_asm); (case N => k_asm); (case a => rfl); (case b => rfl); k_whole; intro h' F' N'; (try k_sweep))))
local macro_rules | `(tactic| walk_at "call ref") => `(tactic| (k_here; refine Stop.intro ?_))
local macro_rules | `(tactic| walk_at "call builtin:sorted") => `(tactic| (k_here; refine Stop.intro ?_))
local macro_rules | `(tactic| walk_at "eval ListComp") => `(tactic| (k_here; refine toks_gen ?_; intro tk'; (try dsimp only); refine Stop.intro ?_))
local macro_rules | `(tactic| walk_at "subscriptTail") => `(tactic| (k_here; (with_reducible show wpAny _ _ (subscriptTail _ _ (Value.ref _) (Value.int _ _)) _ _ _); k_dflt (refine item_str (by k_asm) (by k_mem) (by omega) (by omega) (by omega) (by with_unfolding_all rfl) _ (by assumption) ?_; intro tk')))
section
variable {w : World} {b₀ : Heap} {mean : ExcName → Option Value} {mg mb : Str → Option Value} {A : Around} {s : Shared} {L fa : Addr} {cd : Value} {m : Str → Option Value} {Q : Flow → Shared → Prop}
theorem place_K {g : Heap} {news : Led} {PA : Addr} {xs : List (Str × Tok)} {name y : Str} {t : Tok} {Q : Value → Shared → Prop} (W : Wd w b₀ mean mg mb) (gst : b₀.StaysIn g) (H : Room A 2) (F : Fr g L s.heap m) (N : News g L s.heap news)
    (hP : s.heap.IsList PA (sls xs)) (hx0 : xs ≠ []) (hxz : xs.length ≤ 50) (hxl : ∀ x ∈ xs, x.1.length ≤ 100) (hnl : name.length ≤ 100) (hy : placeOf (xs.map (·.1)) name = y)
    (ret : ∀ h' tk' t', Fr g L h' m → News g L h' news → Q (.str y t') { s with heap := h', toks := tk' }) :
    wpAny (model PySem.Challenge.rw_ik0148_01.row.prog w) A (call (.ref 271) [.ref PA, .str name t]) Q no s := by
  subst hy
  exact place_ct W (fun b o e => F.keep b o (gst b o e)) H hP hx0 hxz hxl hnl fun h' tk' t' k => ret h' tk' t' (fr_stay F k) (news_stay N k)
inductive RowI (xs : List Int) (led : Led) (i : Nat) (ys : List Value) (news' : Led) : Prop
  | mk (rs : List Addr) (val : Addr → Key) (ext : Led) (e : ys = rs.map Value.ref) (e2 : news' = ext ++ led) (hrs : ∀ a ∈ rs, ∃ t1 t2 t3 n1, (a, listOf #[.int (val a).1 t1, .str (val a).2 t2, .str (modOf (val a).2) t3] n1) ∈ ext) (hmap : rs.map val = (xs.take i).map keyOf) : RowI xs led i ys news'
theorem law_S7 {led : Led} {wh : Int} {t : Tok} {fA mA x hA tA nA oA : Addr} {fs : List Addr} {nf : Nat} {xs : List Int} {nl ml : List (Str × Tok)} {on om : Obj} (W : Wd w b₀ mean mg mb) (H : Room A 24) (F : Fr b₀ L s.heap m) (P : LawPins m wh t fA mA x hA tA) (N : News b₀ L s.heap led)
    (hf : (fA, listOf (refs fs) nf) ∈ led) (hfs : Fa (FileIn led) fs xs) (hon : (L + 1, on) ∈ led) (hon2 : on.data = .cell (some (.ref nA))) (hom : (L + 1 + 1, om) ∈ led) (hom2 : om.data = .cell (some (.ref oA))) (hna : (nA, listOf (sls nl) 0) ∈ led) (hoa : (oA, listOf (sls ml) 0) ∈ led) (hnl : nl.map (·.1) = names8.map (·.1)) (hml : ml.map (·.1) = names8.map (·.2)) (hz : xs.length ≤ 20) (hz2 : 2 ≤ xs.length)
    (ret : ∀ h' tk' m' R rs val ext n, Fr b₀ L h' m' → LawPins m' wh t fA mA x hA tA → m' (Str.ofString "row") = some (.ref R) → News b₀ L h' ((R, listOf (refs rs) n) :: (ext ++ led)) → (∀ a ∈ rs, ∃ t1 t2 t3 n1, (a, listOf #[.int (val a).1 t1, .str (val a).2 t2, .str (modOf (val a).2) t3] n1) ∈ ext) → (rs.map val).Perm (xs.map keyOf) → rs.Pairwise (fun a b => keylt (val b) (val a) = false) → Q .next { s with heap := h', toks := tk' }) :
   wpAny (model PySem.Challenge.rw_ik0148_01.row.prog w) A (exec (nth (bodyOf lawD) 7) (lawEnv L fa cd)) Q no s := by
  refine H.wp ?_
  have KX := W.K
  have TX := W.T
  revert KX
  k_fill
  intro KX
  conv =>
    arg 3
    arg 1
    whnf
  unfold lawEnv
  conv =>
    arg 3
    arg 2
    arg 2
    whnf
  have F2 := fr_law F P
  clear F
  have hnll : nl.length = 8 := by have := congrArg List.length hnl; simpa [names8] using this
  have hmll : ml.length = 8 := by have := congrArg List.length hml; simpa [names8] using this
  have hfl := hfs.length
  k_steps
  refine Stop.here (comp_eval (cl := [(Str.ofString "names", L + 1), (Str.ofString "modules", L + 1 + 1)]) (by rfl) (by rfl) (by decide) (by intro _; rfl) ?_)
  k_steps
  rename (Fr _ _ _ _) => F3
  refine Stop.here (comp_block (vs := refs fs) rfl (RowI xs led) F3 N ⟨_, (N _ hf).1, rfl, _, rfl⟩ (by simp; omega) (by decide) rfl ⟨[], fun _ => (0, Str.ofString ""), [], rfl, rfl, (fun _ h => nomatch h), rfl⟩ ?_ ?_ ?_)
  · rintro C i m' ys news' h' ⟨rs, val, ext, rfl, rfl, _⟩ _ N'
    exact ⟨_, (N' _ (List.mem_append_right _ hf)).1, rfl, _, rfl⟩
  · rintro C it D oL oi n i ys v m' news' h' tk hlt lt1 lt2 lt3 a1 a2 a3 hv ⟨rs, val, ext, rfl, rfl, hrs, hmap⟩ F' N'
    have hi : i < fs.length := by
      have := (Array.getElem?_eq_some_iff.mp hv).1
      simpa using this
    obtain rfl : v = .ref fs[i] := by
      rw [List.getElem?_toArray, List.getElem?_map, List.getElem?_eq_getElem hi] at hv
      exact (Option.some.inj hv).symm
    obtain ⟨xv, hxi, PA, ps, ta, tb, hfi, hpi, hps⟩ := hfs.get (List.getElem?_eq_getElem hi)
    have hk0 : 0 ≤ (xv.fdiv 16).fmod 8 := Int.fmod_nonneg_of_pos _ (by decide)
    have hk8 : (xv.fdiv 16).fmod 8 < 8 := Int.fmod_lt_of_pos _ (by decide)
    have hkey : keyOf xv = (-((xv.fdiv 128).fmod 10), placeOf (pcs xv) (nameL ((xv.fdiv 16).fmod 8).toNat)) := rfl
    generalize hkk : (xv.fdiv 16).fmod 8 = kk at *
    refine kun_list (items := #[.int (-((xv.fdiv 128).fmod 10)) ta, .ref PA, .int kk tb]) F' N' ⟨_, (N' _ (.tail _ (.tail _ (.tail _ (List.mem_append_right _ hfi))))).1, rfl, _, rfl⟩ rfl rfl rfl fun h6 F7 N7 => ?_
    clear F' N' F3 N
    have hon' : (L + 1, on) ∈ ext ++ led := List.mem_append_right _ hon
    have hna' : (nA, listOf (sls nl) 0) ∈ ext ++ led := List.mem_append_right _ hna
    have hom' : (L + 1 + 1, om) ∈ ext ++ led := List.mem_append_right _ hom
    have hoa' : (oA, listOf (sls ml) 0) ∈ ext ++ led := List.mem_append_right _ hoa
    obtain ⟨hp3, hp100⟩ := pcs_small xv
    have hC := combo_at xv (k := kk.toNat) (by omega)
    have hn100 := names_small kk.toNat (by omega)
    have hpsl : ps.length ≤ 3 := by rw [← hps, List.length_map] at hp3; exact hp3
    have hps0 : ps ≠ [] := fun e => by
      rw [e] at hps
      have := congrArg List.length hps
      unfold pcs at this
      simp at this
    k_steps
    rename (Fr _ _ _ _) => F8
    rename (News _ _ _ _) => N8
    refine Stop.here (place_K W (fun _ _ e => e) ⟨rfl, Nat.le_of_ble_eq_true rfl, Nat.le_of_ble_eq_true rfl⟩ F8 N8 (y := placeOf (pcs xv) (nameL kk.toNat)) ⟨_, (N8 _ (.tail _ (.tail _ (.tail _ (List.mem_append_right _ hpi))))).1, rfl, _, rfl⟩ hps0 (by omega) (fun z hz => hp100 _ (by rw [← hps]; exact List.mem_map_of_mem hz)) hn100 (by rw [hps]; rfl) fun h9 tk9 t9 F9 N9 => ?_)
    clear F8 N8
    k_steps
    rename_i tk8 l9 _ F10 N10 l10
    have hnew : ∀ a ∈ rs, @Ne Nat a l9 := fun a ha => by
      obtain ⟨u1, u2, u3, n1, hm⟩ := hrs a ha
      exact Nat.ne_of_lt (allLt_mem l10.2.2.2 _ (List.mem_append_left _ hm))
    obtain ⟨val', hval', hvq⟩ : ∃ val' : Addr → Key, (∀ a ∈ rs, val' a = val a) ∧ val' l9 = keyOf xv := ⟨fun a => if a = l9 then keyOf xv else val a, fun a ha => if_neg (hnew a ha), if_pos rfl⟩
    have hm9 : modOf (placeOf (pcs xv) (nameL kk.toNat)) = (names8.map (·.2)).getD kk.toNat (Str.ofString "") := modOf_place (by omega) hC
    refine Stop.here (cend (news := (l9, listOf #[.int (-((xv.fdiv 128).fmod 10)) ta, .str (placeOf (pcs xv) (nameL kk.toNat)) t9, .str ((names8.map (·.2)).getD kk.toNat (Str.ofString "")) tk8] 0) :: (ext ++ led)) F10 (fun p hp => ?_) ⟨Nat.ne_of_gt l10.1, a1⟩ ⟨Nat.ne_of_gt l10.2.1, a2⟩ ⟨Nat.ne_of_gt l10.2.2.1, a3⟩ ⟨rs ++ [l9], val', (l9, listOf #[.int (-((xv.fdiv 128).fmod 10)) ta, .str (placeOf (pcs xv) (nameL kk.toNat)) t9, .str ((names8.map (·.2)).getD kk.toNat (Str.ofString "")) tk8] 0) :: ext, by simp, rfl, fun a ha => ?_, ?_⟩)
    · rcases List.mem_cons.mp hp with rfl | hp
      · exact N10 _ (.tail _ (.head _))
      rcases List.mem_cons.mp hp with rfl | hp
      · exact N10 _ (.tail _ (.tail _ (.head _)))
      rcases List.mem_cons.mp hp with rfl | hp
      · exact N10 _ (.tail _ (.tail _ (.tail _ (.head _))))
      rcases List.mem_cons.mp hp with rfl | hp
      · exact N10 _ (.head _)
      · exact N10 _ (.tail _ (.tail _ (.tail _ (.tail _ hp))))
    · rcases List.mem_append.mp ha with ha | ha
      · obtain ⟨u1, u2, u3, n1, hm⟩ := hrs a ha
        rw [hval' a ha]
        exact ⟨u1, u2, u3, n1, .tail _ hm⟩
      · rw [List.mem_singleton.mp ha, hvq, hkey]
        dsimp only
        rw [hm9]
        exact ⟨ta, t9, tk8, 0, .head _⟩
    · rw [List.map_append, List.take_add_one, hxi, Option.toList_some, List.map_append, List.map_cons, List.map_nil, hvq, List.map_cons, List.map_nil]
      have : rs.map val' = rs.map val := List.map_congr_left hval'
      rw [this, hmap]
  · rintro C D oL n ys m' news' h' tk lt1 lt2 lt3 gL a1 a3 ⟨rs, val, ext, rfl, rfl, hrs, hmap⟩ F' N' nsL
    refine comp_post F3 lt1 lt2 lt3 a1 a3 F' N' nsL fun h3 F10 N10 aD lD => ?_
    clear F3 F' N' nsL a1
    have hsz : (refs fs).size = xs.length := by rw [List.size_toArray, List.length_map, hfl]
    rw [hsz, List.take_length] at hmap
    have hrl : rs.length = xs.length := by have := congrArg List.length hmap; simpa using this
    k_steps
    rename (Fr _ _ _ _) => F11
    rename (News _ _ _ _) => N11
    refine Stop.here (sorted_rows (M := modOf) (T := ext) (as := rs) (val := val) F11 N11 ⟨_, (N11 _ (.head _)).1, rfl, _, rfl⟩ (by omega) (by omega) (Nat.le_of_ble_eq_true rfl) hrs (fun p hp => .tail _ (List.mem_append_left _ hp)) fun R rs' c h4 F12 N12 hperm hpw => ?_)
    clear F11 N11
    k_steps
    rename (Fr _ _ _ _) => F13
    rename (News _ _ _ _) => N13
    refine ret _ _ _ R rs' val ext c F13 ⟨rfl, rfl, rfl, rfl, rfl, rfl⟩ rfl (news_pick N13 fun p hp => ?_) (fun a ha => hrs a (hperm.mem_iff.mp ha)) (hmap ▸ hperm.map val) hpw
    rcases List.mem_cons.mp hp with rfl | hp
    · exact .head _
    · exact .tail _ (.tail _ hp)
end
end TE6
end Mine

namespace Mine
section TPL
open PySem PySem.W PyProof.Rows PySem.Calls
set_option maxRecDepth 100000
set_option maxHeartbeats 1000000
theorem slice_start {x z : Str} {j : Int} (hj : j = (z.length : Int)) : (Txt.slice x none (some j) == z) = Txt.startswith x z := by
  have hl := Txt.slice_le x none (some j)
  subst hj
  unfold Txt.startswith
  by_cases h : z.length ≤ x.length
  · have e : Txt.slice x none (some (z.length : Int)) = ⟨(x.cps.toList.take z.length).toArray⟩ := by
      show StrLaws.sliceText x none (some (z.length : Int)) = _
      rw [StrLaws.sliceText_to ⟨Int.natCast_nonneg _, by show (z.length : Int) ≤ (x.cps.toList.length : Nat); simp only [Array.length_toList]; exact Int.ofNat_le.mpr h⟩, List.drop_zero]
      congr 3
    rw [e, StrLaws.subAt_eq, List.drop_zero]
    have h2 : decide (0 + z.length ≤ x.length) = true := decide_eq_true (by omega)
    rw [h2, Bool.true_and, Bool.eq_iff_iff, beq_iff_eq, beq_iff_eq]
    constructor
    · intro q
      have := congrArg (fun y : Str => y.cps.toList) q
      simpa using this
    · intro q
      obtain ⟨z⟩ := z
      congr 1
      apply Array.toList_inj.mp
      exact q
  · have h2 : decide (0 + z.length ≤ x.length) = false := decide_eq_false (by omega)
    rw [h2, Bool.false_and]
    rw [beq_eq_false_iff_ne]
    intro q
    rw [q] at hl
    exact h hl
theorem below_start (md nm : Str) : belowB md nm = (md == nm || Txt.startswith md (nm ++ Str.ofString ".")) := by
  unfold belowB
  rw [slice_start]
  rw [len_append]
  have : (Str.ofString ".").length = 1 := by decide
  rw [this]; push_cast; rfl
theorem dir_start (p d : Str) : (Txt.slice p none (some ((d.length : Int) + 1)) == d ++ Str.ofString "/") = Txt.startswith p (d ++ Str.ofString "/") := by
  rw [slice_start]
  rw [len_append, slash_len]; push_cast; rfl
/-- what _law_due reckons of a new module is what names answers -/
theorem due_new (ms ds : List Str) (r : Row) : dueNew ms ds r = if (r.2.2 == Str.ofString "<string>" || ans ms ds r.2.1 r.2.2) = true then 1 else 0 := by
  unfold dueNew
  congr 1
  apply propext
  rw [Bool.or_eq_true]
  refine or_congr Iff.rfl ?_
  unfold ans
  rw [Bool.or_eq_true, Bool.or_eq_true, List.any_eq_true, List.any_eq_true, decide_eq_true_eq]
  constructor
  · intro h
    obtain ⟨x, hx⟩ := List.exists_mem_of_ne_nil _ h
    rcases List.mem_append.mp hx with hx | hx
    · obtain ⟨h1, h2⟩ := List.mem_filter.mp hx
      rw [below_start, Bool.or_eq_true] at h2
      rcases h2 with h2 | h2
      · rw [← eq_of_beq h2] at h1; exact .inl (.inl h1)
      · exact .inl (.inr ⟨x, h1, h2⟩)
    · obtain ⟨h1, h2⟩ := List.mem_filter.mp hx
      rw [dir_start] at h2
      exact .inr ⟨x, h1, h2⟩
  · rintro ((h | ⟨x, h1, h2⟩) | ⟨x, h1, h2⟩)
    · refine List.ne_nil_of_mem (a := r.2.2) (List.mem_append_left _ (List.mem_filter.mpr ⟨h, ?_⟩))
      rw [below_start, beq_self_eq_true]; rfl
    · refine List.ne_nil_of_mem (a := x) (List.mem_append_left _ (List.mem_filter.mpr ⟨h1, ?_⟩))
      rw [below_start, h2, Bool.or_true]
    · refine List.ne_nil_of_mem (a := x) (List.mem_append_right _ (List.mem_filter.mpr ⟨h1, ?_⟩))
      rw [dir_start]; exact h2
/-- both keep the same -/
def Same (mem : Str → Option Bool) (st : List (Str × Int)) : Prop := ∀ md, (dueKnown st md = [] ∧ mem md = if md = Str.ofString "<string>" then some true else none) ∨ ∃ b vr, dueKnown st md = (if b = true then 1 else 0) :: vr ∧ mem md = some b
theorem known_snoc (st : List (Str × Int)) (m md : Str) (v : Int) : dueKnown (st ++ [(m, v)]) md = dueKnown st md ++ if m = md then [v] else [] := by
  unfold dueKnown
  rw [List.filter_append, List.map_append]
  congr 1
  by_cases h : m = md
  · rw [if_pos h]; simp [h]
  · rw [if_neg h]; simp [h]
theorem same_step {ms ds : List Str} {mem : Str → Option Bool} {st : List (Str × Int)} {outs : List (Row × Int)} (h : Same mem st) (r : Row) :
    Same (nStep ms ds (mem, outs) r).1 (dueStep ms ds (st, outs) r).1 ∧ (nStep ms ds (mem, outs) r).2 = (dueStep ms ds (st, outs) r).2 := by
  rcases h r.2.2 with ⟨h1, h2⟩ | ⟨b, vr, h1, h2⟩
  · have e : (mem r.2.2).getD (ans ms ds r.2.1 r.2.2) = (r.2.2 == Str.ofString "<string>" || ans ms ds r.2.1 r.2.2) := by
      rw [h2]
      by_cases q : r.2.2 = Str.ofString "<string>"
      · rw [if_pos q, q, beq_self_eq_true]; rfl
      · rw [if_neg q, beq_eq_false_iff_ne.mpr q]; rfl
    have e2 : dueStep ms ds (st, outs) r = (st ++ [(r.2.2, dueNew ms ds r)], outs ++ [(r, dueNew ms ds r)]) := by
      unfold dueStep; dsimp only; rw [h1]
    rw [e2, due_new]
    unfold nStep
    dsimp only
    rw [e]
    refine ⟨fun md => ?_, rfl⟩
    rw [known_snoc]
    by_cases q : md = r.2.2
    · subst q
      right
      refine ⟨_, [], ?_, if_pos rfl⟩
      rw [h1, if_pos rfl]; rfl
    · rw [if_neg (fun z => q z.symm), List.append_nil]
      dsimp only
      rw [if_neg q]
      exact h md
  · have e2 : dueStep ms ds (st, outs) r = (st, outs ++ [(r, if b = true then 1 else 0)]) := by
      unfold dueStep; dsimp only; rw [h1]
    rw [e2]
    unfold nStep
    dsimp only
    rw [h2]
    refine ⟨fun md => ?_, rfl⟩
    by_cases q : md = r.2.2
    · subst q; right; exact ⟨b, vr, h1, if_pos rfl⟩
    · dsimp only
      rw [if_neg q]; exact h md
theorem same_run {ms ds : List Str} : ∀ (rows : List Row) (mem : Str → Option Bool) (st : List (Str × Int)) (outs : List (Row × Int)), Same mem st →
    (rows.foldl (nStep ms ds) (mem, outs)).2 = (rows.foldl (dueStep ms ds) (st, outs)).2
  | [], _, _, _, _ => rfl
  | r :: rows, mem, st, outs, h => by
    obtain ⟨h1, h2⟩ := same_step (ms := ms) (ds := ds) (outs := outs) h r
    rw [List.foldl_cons, List.foldl_cons]
    have e1 : nStep ms ds (mem, outs) r = ((nStep ms ds (mem, outs) r).1, (dueStep ms ds (st, outs) r).2) := by rw [← h2]
    rw [e1]
    exact same_run rows _ _ _ h1
theorem same0 : Same mem0 [] := fun md => .inl ⟨rfl, rfl⟩
/-- sorted one way alone -/
theorem sorted_one : ∀ {a b : List Key}, a.Perm b → a.Pairwise (fun x y => keylt y x = false) → b.Pairwise (fun x y => keylt y x = false) → a = b
  | [], b, p, _, _ => by rw [List.nil_perm.mp p]
  | x :: a, [], p, _, _ => by have := p.length_eq; simp at this
  | x :: a, y :: b, p, h1, h2 => by
    obtain ⟨x1, x2⟩ := List.pairwise_cons.mp h1
    obtain ⟨y1, y2⟩ := List.pairwise_cons.mp h2
    have e : x = y := by
      by_cases q : x = y
      · exact q
      · have hx : x ∈ b := by
          rcases List.mem_cons.mp (p.mem_iff.mp (.head _)) with e | e
          · exact absurd e q
          · exact e
        have hy : y ∈ a := by
          rcases List.mem_cons.mp (p.mem_iff.mpr (.head _)) with e | e
          · exact absurd e.symm q
          · exact e
        exact key_anti (y1 x hx) (x1 y hy)
    subst e
    rw [sorted_one p.cons_inv x2 y2]
/-- the law: what names told is what is due -/
theorem law_plain {ms ds : List Str} {keys pk : List Key} {rs : List Addr} {val : Addr → Key} (hp : pk.Perm keys) (hpw : pk.Pairwise (fun a b => keylt b a = false)) (hr : (rs.map val).Perm keys) (hrw : rs.Pairwise (fun a b => keylt (val b) (val a) = false)) :
    ((pk.map rowOf).foldl (nStep ms ds) (mem0, [])).2 = ((rs.map fun a => rowOf (val a)).foldl (dueStep ms ds) ([], [])).2 := by
  have e : pk = rs.map val := sorted_one (hp.trans hr.symm) hpw (List.pairwise_map.mpr hrw)
  rw [e, List.map_map]
  exact same_run _ _ _ _ same0
end TPL
end Mine

namespace Mine
section TE7
open PySem PySem.W PyProof.Rows PySem.Calls
set_option maxRecDepth 100000
set_option maxHeartbeats 1000000
set_option pp.deepTerms false
set_option pp.deepTerms.threshold 6
def folds2Of (wh : Int) : List Str := match ((wh.fdiv 4).fmod 4).toNat with | 0 => [] | 1 => [Str.ofString "/r/a"] | 2 => [Str.ofString "/r/a/b"] | _ => [Str.ofString "/r/b", Str.ofString "/a"]
def outD (r : Row × Int) : PyData := .list [.int r.1.1, .str r.1.2.1, .str r.1.2.2, .int r.2]
theorem reads_outs {h : Heap} {T : Led} (hT : ∀ p ∈ T, h.get? p.1 = some p.2) {ts : List Addr} {outs : List (Row × Int)} (H : Fa (In4 T) ts outs) : ∃ bs, ReadsAll h (ts.map Value.ref) (outs.map outD) bs := by
  induction H with
  | nil => exact ⟨[], .nil⟩
  | cons r _ ih =>
    obtain ⟨bs, hb⟩ := ih
    obtain ⟨t1, t2, t3, t4, n, hm⟩ := r
    exact ⟨_, ReadsAll.cons (reads_list_at (hT _ hm) rfl rfl (ReadsAll.cons (Reads.int _ _) (ReadsAll.cons (Reads.str _ _) (ReadsAll.cons (Reads.str _ _) (ReadsAll.cons (Reads.int _ _) ReadsAll.nil))))) hb⟩
theorem shaped_outs : ∀ {outs : List (Row × Int)}, (∀ r ∈ outs, PyData.strOk r.1.2.1 = true ∧ PyData.strOk r.1.2.2 = true) → PyData.canLayAll0 (outs.map outD) = true ∧ PyData.depthAll (outs.map outD) ≤ 2 ∧ PyData.eqvAll (outs.map outD) (outs.map outD) = true
  | [], _ => ⟨rfl, Nat.zero_le _, by simp [PyData.eqvAll]⟩
  | r :: rs, H => by
    obtain ⟨h1, h2, h3⟩ := shaped_outs (outs := rs) fun x hx => H x (.tail _ hx)
    obtain ⟨o1, o2⟩ := H r (.head _)
    refine ⟨?_, ?_, ?_⟩
    · simp only [List.map_cons, outD, PyData.canLayAll0, PyData.canLay0, o1, o2, Bool.and_self, Bool.true_and]; exact h1
    · simp only [List.map_cons, outD, PyData.depthAll, PyData.depth] at h2 ⊢; omega
    · simp only [List.map_cons, outD, PyData.eqvAll, PyData.eqv, beq_self_eq_true, Bool.and_self, Bool.true_and]; exact h3
theorem eq_outs {prog : Program} {w : World} {A : Around} {E : Value → Shared → Prop} {s : Shared} {a b : Addr} {T1 T2 : Led} {ts bs : List Addr} {n1 n2 : Nat} {outs : List (Row × Int)} {Q : Value → Shared → Prop} (ha : s.heap.get? a = some (listOf (refs ts) n1)) (hb : s.heap.get? b = some (listOf (refs bs) n2))
    (h1 : ∀ p ∈ T1, s.heap.get? p.1 = some p.2) (h2 : ∀ p ∈ T2, s.heap.get? p.1 = some p.2) (f1 : Fa (In4 T1) ts outs) (f2 : Fa (In4 T2) bs outs) (ok : ∀ r ∈ outs, PyData.strOk r.1.2.1 = true ∧ PyData.strOk r.1.2.2 = true) (hu : A.units + 64 < cLine) (h : Q (.bool true) s) :
    wpAny (model prog w) A (compareOp .Eq (.ref a) (.ref b)) Q E s := by
  obtain ⟨c1, c2, c3⟩ := shaped_outs ok
  obtain ⟨x1, r1⟩ := reads_outs h1 f1
  obtain ⟨x2, r2⟩ := reads_outs h2 f2
  refine eq_dataH (reads_list_at ha rfl rfl (by simpa using r1)) (reads_list_at hb rfl rfl (by simpa using r2)) (shaped_list c1 (by omega)) (shaped_list c1 (by omega)) hu ?_
  have e : PyData.eqv (.list (outs.map outD)) (.list (outs.map outD)) = true := by simpa only [PyData.eqv] using c3
  rw [e]; exact h
local macro_rules | `(tactic| k_mem) => `(tactic| assumption)
local macro_rules | `(tactic| walk_at "call ref") => `(tactic| (k_here; refine Stop.intro ?_))
local macro_rules | `(tactic| walk_at "compareOp Eq ref ref") => `(tactic| (k_here; refine Stop.intro ?_))
local macro_rules | `(tactic| walk_at "subscriptTail") => `(tactic| (k_here; (with_reducible show wpAny _ _ (subscriptTail _ _ (Value.ref _) (Value.int (Int.fmod _ 4) _)) _ _ _); k_dflt (refine' sub_ref (as := [_, _, _, _]) ?k1 ?k2 (fmod4 _).1 (fmod4 _).2 (Nat.le_of_ble_eq_true rfl) ?_ ?k6; (case k1 => k_asm); (case k2 => k_mem); (case k6 => with_unfolding_all rfl); k_whole)))
theorem fa_map {α β : Type} {R : α → β → Prop} {f : α → β} : ∀ {as : List α}, (∀ a ∈ as, R a (f a)) → Fa R as (as.map f)
  | [], _ => .nil
  | a :: r, h => .cons (h a (.head _)) (fa_map fun b hb => h b (.tail _ hb))
theorem mods_small (wh : Int) : (modsOf wh).length ≤ 2 ∧ ∀ x ∈ modsOf wh, x.length ≤ 100 ∧ PyData.strOk x = true := by
  unfold modsOf
  split <;> decide +kernel
theorem folds2_small (wh : Int) : (folds2Of wh).length ≤ 2 ∧ ∀ x ∈ folds2Of wh, x.length ≤ 100 ∧ PyData.strOk x = true := by
  unfold folds2Of
  split <;> decide +kernel
theorem key_facts (xv : Int) : PyData.strOk (keyOf xv).2 = true ∧ (keyOf xv).2.length ≤ 100 ∧ (modOf (keyOf xv).2).length ≤ 100 ∧ PyData.strOk (modOf (keyOf xv).2) = true := by
  have h8 : ((xv.fdiv 16).fmod 8).toNat < 8 := by
    have h1 := Int.fmod_nonneg_of_pos (xv.fdiv 16) (b := 8) (by decide)
    have h2 := Int.fmod_lt_of_pos (xv.fdiv 16) (b := 8) (by decide)
    omega
  have hC := combo_at xv h8
  have hm : modOf (keyOf xv).2 = modL ((xv.fdiv 16).fmod 8).toNat := modOf_place h8 hC
  have hL := names8_look _ h8
  rw [hm]
  exact ⟨hC.ok, hC.l4, hL.2.2.1, hL.2.2.2⟩
theorem due_rows (ms ds : List Str) : ∀ (rows : List Row) (st : List (Str × Int)) (o : List (Row × Int)), (rows.foldl (dueStep ms ds) (st, o)).2.map (·.1) = o.map (·.1) ++ rows
  | [], _, _ => by simp
  | r :: rows, st, o => by
    rw [List.foldl_cons]
    have e : ∃ st' v, dueStep ms ds (st, o) r = (st', o ++ [(r, v)]) := by
      unfold dueStep
      dsimp only
      cases dueKnown st r.2.2 with
      | nil => exact ⟨_, _, rfl⟩
      | cons v vr => exact ⟨_, _, rfl⟩
    obtain ⟨st', v, e⟩ := e
    rw [e, due_rows ms ds rows st' _]
    simp
section
variable {w : World} {b₀ : Heap} {mean : ExcName → Option Value} {mg mb : Str → Option Value} {A : Around} {s : Shared} {L fa : Addr} {cd : Value} {m : Str → Option Value} {Q : Flow → Shared → Prop}
theorem law_S8 {led : Led} {wh : Int} {t : Tok} {fA mA x hA tA R : Addr} {rs ts : List Addr} {nr nt : Nat} {val : Addr → Key} {ms : List (Str × Tok)} {outs : List (Row × Int)} (W : Wd w b₀ mean mg mb) (H : Room A 24) (F : Fr b₀ L s.heap m) (P : LawPins m wh t fA mA x hA tA) (eR : m (Str.ofString "row") = some (.ref R)) (N : News b₀ L s.heap led)
    (hR : (R, listOf (refs rs) nr) ∈ led) (hT : (tA, listOf (refs ts) nt) ∈ led) (hM : (mA, listOf (sls ms) 0) ∈ led) (hms : ms.map (·.1) = modsOf wh) (hrs : ∀ a ∈ rs, ∃ t1 t2 t3 n1, (a, listOf #[.int (val a).1 t1, .str (val a).2 t2, .str (modOf (val a).2) t3] n1) ∈ led) (hts : Fa (In4 led) ts outs) (hz : rs.length ≤ 20)
    (hkey : ∀ a ∈ rs, ∃ xv, val a = keyOf xv) (heq : outs = ((rs.map fun a => rowOf (val a)).foldl (dueStep (ms.map (·.1)) (folds2Of wh)) ([], [])).2)
    (ret : ∀ h' tk' m', Fr b₀ L h' m' → Q (.ret (.bool true)) { s with heap := h', toks := tk' }) :
   wpAny (model PySem.Challenge.rw_ik0148_01.row.prog w) A (exec (nth (bodyOf lawD) 8) (lawEnv L fa cd)) Q no s := by
  refine H.wp ?_
  have KX := W.K
  have TX := W.T
  revert KX
  k_fill
  intro KX
  conv =>
    arg 3
    arg 1
    whnf
  unfold lawEnv
  conv =>
    arg 3
    arg 2
    arg 2
    whnf
  have F2 := fr_pins F [(Str.ofString "whole", Value.int wh t), (Str.ofString "mods", .ref mA), (Str.ofString "told", .ref tA), (Str.ofString "row", .ref R)] (by simp only [List.forall_mem_cons]; exact ⟨P.p1, P.p3, P.p6, eR, fun _ h => nomatch h⟩)
  clear F
  have hok : ∀ r ∈ outs, PyData.strOk r.1.2.1 = true ∧ PyData.strOk r.1.2.2 = true := by
    intro r hr
    have h1 := due_rows (ms.map (·.1)) (folds2Of wh) (rs.map fun a => rowOf (val a)) [] []
    rw [← heq, List.map_nil, List.nil_append] at h1
    have h2 := List.mem_map_of_mem (f := (·.1)) hr
    rw [h1] at h2
    obtain ⟨a, ha, e⟩ := List.mem_map.mp h2
    obtain ⟨xv, hx⟩ := hkey a ha
    have kf := key_facts xv
    rw [← e]
    unfold rowOf
    rw [hx]
    exact ⟨kf.1, kf.2.2.2⟩
  have hmz : ms.length ≤ 2 := by have := (mods_small wh).1; rw [← hms, List.length_map] at this; exact this
  have hmm : ∀ x ∈ ms, x.1.length ≤ 100 ∧ PyData.strOk x.1 = true := fun x hx => (mods_small wh).2 _ (by rw [← hms]; exact List.mem_map_of_mem hx)
  k_steps
  rename_i l1 _ _ l2 _ _ l3 _ _ l4 _ _ l5 _ F9 N9 _
  obtain ⟨dA, ys, e, N10, he⟩ := pick4 (news := led) (y1 := []) (y2 := [(_, _)]) (y3 := [(_, _)]) (y4 := [(_, _), (_, _)]) (fmod4 (wh.fdiv 4)) N9 (.tail _ (.tail _ (.tail _ (.tail _ (.head _))))) (.tail _ (.tail _ (.tail _ (.head _)))) (.tail _ (.tail _ (.head _))) (.tail _ (.head _)) fun p hp => .tail _ (.tail _ (.tail _ (.tail _ (.tail _ hp))))
  have he' : ys.map (·.1) = folds2Of wh := by
    rw [he]; unfold folds2Of
    rcases four (fmod4 (wh.fdiv 4)).1 (fmod4 (wh.fdiv 4)).2 with h | h | h | h <;> rw [h] <;> rfl
  have hdz : ys.length ≤ 2 := by have := (folds2_small wh).1; rw [← he', List.length_map] at this; exact this
  have hdd : ∀ x ∈ ys, x.1.length ≤ 100 ∧ PyData.strOk x.1 = true := fun x hx => (folds2_small wh).2 _ (by rw [← he']; exact List.mem_map_of_mem hx)
  rw [e]
  refine Stop.here (due_ct (as := rs) (rows := rs.map fun a => rowOf (val a)) (ms := ms) (ds := ys) W F9.keep ⟨rfl, Nat.le_of_ble_eq_true rfl, Nat.le_of_ble_eq_true rfl⟩ ⟨_, (N10 _ (.tail _ hR)).1, rfl, _, rfl⟩ (fa_map fun a ha => ?_) ⟨_, (N10 _ (.tail _ hM)).1, rfl, _, rfl⟩ ⟨_, (N10 _ (.head _)).1, rfl, _, rfl⟩ (by omega) (by omega) (by omega)
    (fun x hx => Nat.le_trans (hmm x hx).1 (by decide)) (fun x hx => Nat.le_trans (hdd x hx).1 (by decide)) (fun r hr => ?_) (fun x hx => (hmm x hx).2) (fun x hx => (hdd x hx).2) fun h2 tk2 D bs n2 ext k2 e2 hext hfa => ?_)
  · obtain ⟨t1, t2, t3, n1, hm⟩ := hrs a ha
    exact ⟨t1, t2, t3, n1, (N10 _ (.tail _ hm)).1⟩
  · obtain ⟨a, ha, e⟩ := List.mem_map.mp hr
    obtain ⟨xv, hx⟩ := hkey a ha
    have kf := key_facts xv
    rw [← e]
    unfold rowOf
    rw [hx]
    exact ⟨Nat.le_trans kf.2.1 (by decide), Nat.le_trans kf.2.2.1 (by decide)⟩
  rw [he', ← heq] at hfa
  refine eq_outs (T1 := led) (T2 := ext) (k2 _ _ (N10 _ (.tail _ hT)).1) e2 (fun p hp => k2 _ _ (N10 p (.tail _ hp)).1) hext hts hfa hok (Nat.le_of_ble_eq_true rfl) ?_
  exact ret _ _ _ (fr_stay F9 k2)
end
end TE7
end Mine

namespace Mine
section TE8
open PySem PySem.W PyProof.Rows PySem.Calls
set_option maxRecDepth 100000
set_option maxHeartbeats 1000000
set_option pp.deepTerms false
set_option pp.deepTerms.threshold 6
theorem body9 : bodyOf lawD = [nth (bodyOf lawD) 0, nth (bodyOf lawD) 1, nth (bodyOf lawD) 2, nth (bodyOf lawD) 3, nth (bodyOf lawD) 4, nth (bodyOf lawD) 5, nth (bodyOf lawD) 6, nth (bodyOf lawD) 7, nth (bodyOf lawD) 8] := by rfl
theorem Room.le {A : Around} {n k : Nat} (H : Room A n) (h : k ≤ n) : Room A k := ⟨H.hnd, by have := H.dep; omega, by have := H.uni; omega⟩
theorem step {M : Model} {A : Around} {env : Env} {st : Stmt} {rest : List Stmt} {Q : Flow → Shared → Prop} {s : Shared} (h : wpAny M A (exec st env) (fun f s' => match f with | .next => wpAny M A (execs rest env) Q no s' | f => Q f s') no s) : wpAny M A (execs (st :: rest) env) Q no s :=
  wpAny_execs_cons (wpAny_mono h (fun f s' q => by cases f <;> exact q) fun _ _ q => q)
def npOkB (p : Str) : Bool := decide (p.length ≤ 1000) && decide ((p.length : Int) ≠ 0) && !(Txt.slice p none (some 1) != Str.ofString "/") && (Txt.slice p (some 1) (some 2) != Str.ofString "/") && decide ((Txt.split (Txt.slice p (some 1) none) (Str.ofString "/")).length ≤ 100)
theorem npOk_of {p : Str} (h : npOkB p = true) : NpOk p := by
  simp only [npOkB, Bool.and_eq_true, decide_eq_true_eq, Bool.not_eq_true'] at h
  obtain ⟨⟨⟨⟨a1, a2⟩, a3⟩, a4⟩, a5⟩ := h
  exact ⟨a1, a2, a3, a4, a5⟩
theorem folds_facts (wh : Int) : (foldsOf wh).length ≤ 2 ∧ (∀ x ∈ foldsOf wh, npOkB x = true) ∧ (foldsOf wh).map npOf = folds2Of wh := by
  unfold foldsOf folds2Of
  rcases four (fmod4 (wh.fdiv 4)).1 (fmod4 (wh.fdiv 4)).2 with h | h | h | h <;> rw [h] <;> decide +kernel
theorem mods_nodup (wh : Int) : (modsOf wh).Nodup := by
  unfold modsOf
  split <;> decide
theorem kv0 {t : Tok} : KV [(Str.ofString "<string>", .int 1 t)] mem0 := by
  intro md
  unfold mem0 valueAt
  by_cases h : md = Str.ofString "<string>"
  · simp only [if_pos h]
    exact ⟨t, by simp [h]⟩
  · simp only [if_neg h]
    rw [List.find?_cons_of_neg (by simpa using fun q => h q.symm)]
    rfl
theorem src_len (ns : List Int) : (srcOf ns).length ≤ 20 ∧ 2 ≤ (srcOf ns).length := by
  unfold srcOf
  rw [List.length_append, List.length_take]
  simp only [List.length_cons, List.length_nil]
  omega
section
variable {w : World} {b₀ : Heap} {mean : ExcName → Option Value} {mg mb : Str → Option Value} {A : Around} {s : Shared} {L fa : Addr} {cd : Value} {m : Str → Option Value} {Q : Flow → Shared → Prop}
theorem law_body {o1 o2 : Obj} {x1 x2 : Option Value} {sl : Addr} {vs : List Value} {ns : List Int} (W : Wd w b₀ mean mg mb) (H : Room A 24) (F : Fr b₀ L s.heap m) (N : News b₀ L s.heap [(L + 1 + 1, o1), (L + 1, o2)]) (c1 : o1.data = .cell x1) (c2 : o2.data = .cell x2)
    (e1 : m (Str.ofString "script") = some (.ref sl)) (hs : b₀.IsList sl vs.toArray) (hI : IntsAre vs ns) (hz : ns.length ≤ 63)
    (ret : ∀ h' tk' dr m', Fr b₀ L h' m' → Q (.ret (.bool true)) { s with heap := h', toks := tk', drawn := dr }) :
    wpAny (model PySem.Challenge.rw_ik0148_01.row.prog w) A (execs (bodyOf lawD) (lawEnv L fa cd)) Q no s := by
  rw [body9]
  refine step ?_
  refine @law_S0 w b₀ mean mg mb A s L fa cd m _ o1 o2 x1 x2 W (H.le (by decide)) F N c1 c2 fun h0 tk0 oA nA nl ml om on F0 N0 hom hon hnl hml => ?_
  refine step ?_
  refine @law_S1 w b₀ mean mg mb A { s with heap := h0, toks := tk0 } L fa cd m _ _ sl vs ns W (H.le (by decide)) F0 N0 e1 hs hI hz fun h1 tk1 m1 fA fs nf ext1 t F1 p1 p2 N1 hfs => ?_
  generalize hwh : (ns.take 6).sum + 5 = wh at *
  refine step ?_
  refine @law_S2 w b₀ mean mg mb A { s with heap := h1, toks := tk1 } L fa cd m1 _ _ wh t _ W (H.le (by decide)) F1 N1 p2 p1 fun h2 tk2 m2 mA ms F2 q1 q2 q3 N2 hms => ?_
  refine step ?_
  refine @law_S3 w b₀ mean mg mb A { s with heap := h2, toks := tk2 } L fa cd m2 _ _ wh t _ _ W (H.le (by decide)) F2 N2 q1 q2 q3 fun h3 tk3 m3 dA ds F3 r1 r2 r3 r4 N3 hds => ?_
  have hmz : ms.length ≤ 2 := by have := (mods_small wh).1; rw [← hms, List.length_map] at this; exact this
  have hdz : ds.length ≤ 2 := by have := (folds_facts wh).1; rw [← hds, List.length_map] at this; exact this
  have a50 : ms.length ≤ 50 := by omega
  have b50 : ds.length ≤ 50 := by omega
  have hnd : (ms.map (·.1)).Nodup := by rw [hms]; exact mods_nodup wh
  have hok : ∀ d ∈ ds, NpOk d.1 := fun d hd => npOk_of ((folds_facts wh).2.1 _ (by rw [← hds]; exact List.mem_map_of_mem hd))
  refine step ?_
  refine @law_S4 w b₀ mean mg mb A { s with heap := h3, toks := tk3 } L fa cd m3 _ _ wh t _ mA dA ms ds W H F3 N3 r1 r2 r3 r4 a50 hnd b50 hok fun h4 tk4 m4 x dx S D G oS oG n k t1 t2 t3 dss hA tA F4 u1 u2 u3 u4 u5 u6 N4 ltH ltT lt1 ne1 lt2 nSD nSG nDG five hset hdss hlo hdict => ?_
  obtain ⟨ldB, hSet, hldB⟩ := hset
  obtain ⟨tq, hdict⟩ := hdict
  have hdss2 : dss.map (·.1) = folds2Of wh := by
    rw [hdss, ← (folds_facts wh).2.2, ← hds, List.map_map]; rfl
  have hdsz : dss.length ≤ 2 := by have := (folds2_small wh).1; rw [← hdss2, List.length_map] at this; exact this
  obtain ⟨sz1, sz2⟩ := src_len ns
  generalize hbase : ext1 ++ [(L + 1 + 1, om), (L + 1, on), (oA, listOf (sls ml) 0), (nA, listOf (sls nl) 0)] = base at *
  have b1 : (L + 1 + 1, om) ∈ base := by rw [← hbase]; exact List.mem_append_right _ (.head _)
  have b2 : (L + 1, on) ∈ base := by rw [← hbase]; exact List.mem_append_right _ (.tail _ (.head _))
  have b3 : (oA, listOf (sls ml) 0) ∈ base := by rw [← hbase]; exact List.mem_append_right _ (.tail _ (.tail _ (.head _)))
  have b4 : (nA, listOf (sls nl) 0) ∈ base := by rw [← hbase]; exact List.mem_append_right _ (.tail _ (.tail _ (.tail _ (.head _))))
  have b5 : ∀ p ∈ ext1, p ∈ base := fun p hp => by rw [← hbase]; exact List.mem_append_left _ hp
  generalize hold : ((dA, listOf (sls ds) 0) :: (mA, listOf (sls ms) 0) :: (fA, listOf (refs fs) nf) :: base : Led) = old at *
  have o1' : (mA, listOf (sls ms) 0) ∈ old := by rw [← hold]; exact .tail _ (.head _)
  have o2' : (fA, listOf (refs fs) nf) ∈ old := by rw [← hold]; exact .tail _ (.tail _ (.head _))
  have o3' : ∀ p ∈ base, p ∈ old := fun p hp => by rw [← hold]; exact .tail _ (.tail _ (.tail _ hp))
  have hmm : ∀ z ∈ ms, z.1.length ≤ 1000 := fun z hz => Nat.le_trans ((mods_small wh).2 _ (by rw [← hms]; exact List.mem_map_of_mem hz)).1 (by decide)
  have hdm : ∀ z ∈ dss, z.1.length ≤ 1000 := fun z hz => Nat.le_trans ((folds2_small wh).2 _ (by rw [← hdss2]; exact List.mem_map_of_mem hz)).1 (by decide)
  have lx := ltN (ltH _ (List.mem_append_left _ (.head _)))
  have ldx := ltN (ltH _ (List.mem_append_left _ (.tail _ (.head _))))
  have lS := ltN (ltH _ (List.mem_append_left _ (.tail _ (.tail _ (.head _)))))
  have lD := ltN (ltH _ (List.mem_append_left _ (.tail _ (.tail _ (.tail _ (.head _))))))
  have lG := ltN (ltH _ (List.mem_append_left _ (.tail _ (.tail _ (.tail _ (.tail _ (.head _)))))))
  dsimp only at lx ldx lS lD lG
  have PR : PopRest w x dx S D G hA tA := ⟨Nat.ne_of_lt lt2, nSD, nSG, nDG, five, ⟨Nat.ne_of_lt lx, Nat.ne_of_lt ldx, Nat.ne_of_lt lS, Nat.ne_of_lt lD, Nat.ne_of_lt lG, Nat.ne_of_gt ltT⟩,
    ⟨Nat.ne_of_lt (Nat.lt_trans lx ltT), Nat.ne_of_lt (Nat.lt_trans ldx ltT), Nat.ne_of_lt (Nat.lt_trans lS ltT), Nat.ne_of_lt (Nat.lt_trans lD ltT), Nat.ne_of_lt (Nat.lt_trans lG ltT)⟩, hlo⟩
  have offOld : OwnOff old [hA, tA, x, dx, S, D, G] := by
    intro p hp b hb
    have z1 := ltN (ltH p (List.mem_append_right _ hp))
    have z2 := ltN (lt1 p hp)
    obtain ⟨z3, z4, z5, z6⟩ := ne1 p hp
    revert b hb
    refine all7 ?_ ?_ ?_ ?_ ?_ ?_ ?_
    · exact Nat.ne_of_lt z1
    · exact Nat.ne_of_lt (Nat.lt_trans z1 ltT)
    · exact z3
    · exact Nat.ne_of_lt z2
    · exact z4
    · exact z5
    · exact z6
  refine step ?_
  refine @law_S5 w b₀ mean mg mb A { s with heap := h4, toks := tk4 } L fa cd m4 _ ((tA, listOf (refs []) 0) :: (ignL w x dx S D G oS oG dss k n t1 t2 t3 ++ old)) wh t fA mA x hA tA nA fs nf (srcOf ns) nl on W H F4 ⟨u1, u2, u3, u4, u5, u6⟩ N4 ?_ (.tail _ (List.mem_append_right _ o2')) (hfs.mono fun a b ⟨P, xs, ta, tb, z1, z2, z3⟩ => ⟨P, xs, ta, tb, .tail _ (List.mem_append_right _ (o3' _ (b5 _ z1))), .tail _ (List.mem_append_right _ (o3' _ (b5 _ z2))), z3⟩)
    (.tail _ (List.mem_append_right _ (o3' _ b2))) hon (.tail _ (List.mem_append_right _ (o3' _ b4))) hnl sz1 fun h5 tk5 m5 as n5 val ext5 F5 P5 N5 hit5 hord5 hperm5 hfr5 => ?_
  · intro p hp b hb
    rw [List.mem_singleton.mp hb]
    rcases List.mem_cons.mp hp with rfl | hp
    · exact Nat.ne_of_gt ltT
    · exact Nat.ne_of_lt (ltN (ltH p hp))
  have off5 : OwnOff (ext5 ++ old) [hA, tA, x, dx, S, D, G] := by
    intro p hp b hb
    rcases List.mem_append.mp hp with hp | hp
    · obtain ⟨z1, z2⟩ := hfr5 p hp
      revert b hb
      refine all7 ?_ ?_ ?_ ?_ ?_ ?_ ?_
      · exact z1
      · exact z2 _ (.head _)
      · exact z2 _ (.tail _ (List.mem_append_left _ (.head _)))
      · exact z2 _ (.tail _ (List.mem_append_left _ (.tail _ (.head _))))
      · exact z2 _ (.tail _ (List.mem_append_left _ (.tail _ (.tail _ (.head _)))))
      · exact z2 _ (.tail _ (List.mem_append_left _ (.tail _ (.tail _ (.tail _ (.head _))))))
      · exact z2 _ (.tail _ (List.mem_append_left _ (.tail _ (.tail _ (.tail _ (.tail _ (.head _)))))))
    · exact offOld p hp b hb
  have N6 : News b₀ L h5 ((hA, listOf (refs as) n5) :: (tA, listOf (refs []) 0) :: (ignL w x dx S D G oS oG dss k n t1 t2 t3 ++ (ext5 ++ old))) := by
    intro p hp
    rcases List.mem_cons.mp hp with rfl | hp
    · exact N5 _ (.head _)
    rcases List.mem_cons.mp hp with rfl | hp
    · exact N5 _ (.tail _ (List.mem_append_right _ (.head _)))
    rcases List.mem_append.mp hp with hp | hp
    · exact N5 _ (.tail _ (List.mem_append_right _ (.tail _ (List.mem_append_left _ hp))))
    rcases List.mem_append.mp hp with hp | hp
    · exact N5 _ (.tail _ (List.mem_append_left _ hp))
    · exact N5 _ (.tail _ (List.mem_append_right _ (.tail _ (List.mem_append_right _ hp))))
  clear N5
  refine step ?_
  refine @law_S6 w b₀ mean mg mb A { s with heap := h5, toks := tk5 } L fa cd m5 _ (ext5 ++ old) wh t fA mA x dx S D G hA tA as 0 n5 k n t1 t2 t3 oS oG ms dss val ((srcOf ns).map keyOf) [(Str.ofString "<string>", .int 1 tq)] ldB W H F5 P5 N6 off5 PR
    (fun a ha => by obtain ⟨z1, z2, z3, hm⟩ := hit5 a ha; exact ⟨z1, z2, z3, List.mem_append_left _ hm⟩) hord5 hperm5 (fun key hk => by obtain ⟨xv, _, e⟩ := List.mem_map.mp hk; exact ⟨xv, e.symm⟩) (by rw [List.length_map]; exact sz1) hSet hldB hdict kv0 (Nat.le_refl _) a50 (by omega) hmm hdm
    fun h6 tk6 dr6 m6 ts n6 ext6 pk outs F6 P6 N7 hts hpk1 hpk2 houts => ?_
  have hmem : ∀ p ∈ old, p ∈ (tA, listOf (refs ts) n6) :: (ext6 ++ (ext5 ++ old)) := fun p hp => .tail _ (List.mem_append_right _ (List.mem_append_right _ hp))
  refine step ?_
  refine @law_S7 w b₀ mean mg mb A { s with heap := h6, toks := tk6, drawn := dr6 } L fa cd m6 _ ((tA, listOf (refs ts) n6) :: (ext6 ++ (ext5 ++ old))) wh t fA mA x hA tA nA oA fs nf (srcOf ns) nl ml on om W H F6 P6 N7 (hmem _ o2') (hfs.mono fun a b ⟨P, xs, ta, tb, z1, z2, z3⟩ => ⟨P, xs, ta, tb, hmem _ (o3' _ (b5 _ z1)), hmem _ (o3' _ (b5 _ z2)), z3⟩)
    (hmem _ (o3' _ b2)) hon (hmem _ (o3' _ b1)) hom (hmem _ (o3' _ b4)) (hmem _ (o3' _ b3)) hnl hml sz1 sz2 fun h7 tk7 m7 R rs val7 ext7 n7 F7 P7 eR N8 hrs hr1 hr2 => ?_
  have hrl : rs.length ≤ 20 := by have := hr1.length_eq; rw [List.length_map, List.length_map] at this; omega
  refine step ?_
  refine @law_S8 w b₀ mean mg mb A { s with heap := h7, toks := tk7, drawn := dr6 } L fa cd m7 _ ((R, listOf (refs rs) n7) :: (ext7 ++ ((tA, listOf (refs ts) n6) :: (ext6 ++ (ext5 ++ old))))) wh t fA mA x hA tA R rs ts n7 n6 val7 ms outs W H F7 P7 eR N8 (.head _) (.tail _ (List.mem_append_right _ (.head _))) (.tail _ (List.mem_append_right _ (hmem _ o1'))) hms
    (fun a ha => by obtain ⟨z1, z2, z3, z4, hm⟩ := hrs a ha; exact ⟨z1, z2, z3, z4, .tail _ (List.mem_append_left _ hm)⟩) (hts.mono fun a b ⟨z1, z2, z3, z4, z5, q⟩ => ⟨z1, z2, z3, z4, z5, .tail _ (List.mem_append_right _ (.tail _ (List.mem_append_left _ q)))⟩) hrl
    (fun a ha => by obtain ⟨xv, _, e⟩ := List.mem_map.mp (hr1.mem_iff.mp (List.mem_map_of_mem ha)); exact ⟨xv, e.symm⟩) ?_ fun h8 tk8 m8 F8 => ?_
  · rw [houts, hdss2]
    exact law_plain hpk1 hpk2 hr1 hr2
  · exact ret h8 tk8 dr6 m8 F8
end
end TE8
end Mine

namespace Mine
section TFIN
open PySem PySem.W PyProof.Rows PySem.Calls
set_option maxRecDepth 100000
set_option maxHeartbeats 1000000
set_option pp.deepTerms false
set_option pp.deepTerms.threshold 6
theorem law_top {w : World} {b₀ : Heap} {mean : ExcName → Option Value} {mg mb : Str → Option Value} {A : Around} {s : Shared} {L fa : Addr} {cd : Value} {m : Str → Option Value} {Q : Flow → Shared → Prop} {E : Value → Shared → Prop} {o1 o2 : Obj} {x1 x2 : Option Value} {sl : Addr} {vs : List Value} {ns : List Int}
    {body : List Stmt} {name : Str} {scope : Scope} (eb : body = bodyOf lawD) (en : name = Str.ofString "law") (es : scope = scopeOf lawD) (K : (KK w.params).In b₀) (T : TopF mean mg mb b₀) (H : Room A 24) (F : Fr b₀ L s.heap m) (N : News b₀ L s.heap [(L + 1 + 1, o1), (L + 1, o2)]) (c1 : o1.data = .cell x1) (c2 : o2.data = .cell x2)
    (e1 : m (Str.ofString "script") = some (.ref sl)) (hs : b₀.IsList sl vs.toArray) (hI : IntsAre vs ns) (hz : ns.length ≤ 63)
    (ret : ∀ h' tk' dr m', Fr b₀ L h' m' → Q (.ret (.bool true)) { s with heap := h', toks := tk', drawn := dr }) :
    wpAny (model PySem.Challenge.rw_ik0148_01.row.prog w) A (execs body (envOfC name scope L fa cd)) Q E s := by
  have h := @law_body w b₀ mean mg mb A s L fa cd m Q o1 o2 x1 x2 sl vs ns ⟨K, T⟩ H F N c1 c2 e1 hs hI hz ret
  unfold lawEnv at h
  rw [← eb, ← es, ← en] at h
  clear eb es en
  exact wpAny_mono h (fun _ _ h => h) fun _ _ h => h.elim
/-- the addresses of the text's own objects -/
def KA : List Addr := nat_lit 2 :: nat_lit 3 :: nat_lit 15 :: nat_lit 17 :: nat_lit 18 :: nat_lit 20 :: nat_lit 21 :: nat_lit 29 :: nat_lit 31 :: nat_lit 32 :: nat_lit 34 :: nat_lit 35 :: nat_lit 36 :: nat_lit 43 :: nat_lit 45 :: nat_lit 46 :: nat_lit 48 :: nat_lit 49 :: nat_lit 50 :: nat_lit 51 :: nat_lit 52 :: nat_lit 55 :: nat_lit 62 :: nat_lit 64 :: nat_lit 65 :: nat_lit 67 :: nat_lit 68 :: nat_lit 69 :: nat_lit 71 :: nat_lit 72 :: nat_lit 74 :: nat_lit 75 :: nat_lit 76 :: nat_lit 78 :: nat_lit 79 :: nat_lit 81 :: nat_lit 82 :: nat_lit 83 :: nat_lit 84 :: nat_lit 85 :: nat_lit 88 :: nat_lit 90 :: nat_lit 91 :: nat_lit 93 :: nat_lit 94 :: nat_lit 95 :: nat_lit 97 :: nat_lit 98 :: nat_lit 100 :: nat_lit 101 :: nat_lit 102 :: nat_lit 104 :: nat_lit 105 :: nat_lit 107 :: nat_lit 108 :: nat_lit 109 :: nat_lit 111 :: nat_lit 112 :: nat_lit 114 :: nat_lit 115 :: nat_lit 116 :: nat_lit 118 :: nat_lit 119 :: nat_lit 121 :: nat_lit 122 :: nat_lit 123 :: nat_lit 125 :: nat_lit 126 :: nat_lit 128 :: nat_lit 129 :: nat_lit 130 :: nat_lit 132 :: nat_lit 133 :: nat_lit 135 :: nat_lit 136 :: nat_lit 137 :: nat_lit 139 :: nat_lit 140 :: nat_lit 142 :: nat_lit 143 :: nat_lit 151 :: nat_lit 152 :: nat_lit 155 :: nat_lit 156 :: nat_lit 157 :: nat_lit 159 :: nat_lit 160 :: nat_lit 162 :: nat_lit 163 :: nat_lit 164 :: nat_lit 165 :: nat_lit 166 :: nat_lit 167 :: nat_lit 168 :: nat_lit 171 :: nat_lit 173 :: nat_lit 174 :: nat_lit 176 :: nat_lit 177 :: nat_lit 178 :: nat_lit 180 :: nat_lit 181 :: nat_lit 183 :: nat_lit 184 :: nat_lit 185 :: nat_lit 187 :: nat_lit 188 :: nat_lit 190 :: nat_lit 191 :: nat_lit 192 :: nat_lit 194 :: nat_lit 195 :: nat_lit 197 :: nat_lit 198 :: nat_lit 199 :: nat_lit 201 :: nat_lit 202 :: nat_lit 204 :: nat_lit 205 :: nat_lit 206 :: nat_lit 208 :: nat_lit 209 :: nat_lit 211 :: nat_lit 212 :: nat_lit 213 :: nat_lit 215 :: nat_lit 216 :: nat_lit 218 :: nat_lit 219 :: nat_lit 220 :: nat_lit 222 :: nat_lit 223 :: nat_lit 225 :: nat_lit 226 :: nat_lit 227 :: nat_lit 229 :: nat_lit 230 :: nat_lit 232 :: nat_lit 233 :: nat_lit 237 :: nat_lit 239 :: nat_lit 240 :: nat_lit 242 :: nat_lit 243 :: nat_lit 244 :: nat_lit 246 :: nat_lit 247 :: nat_lit 249 :: nat_lit 250 :: nat_lit 251 :: nat_lit 253 :: nat_lit 254 :: nat_lit 256 :: nat_lit 257 :: nat_lit 258 :: nat_lit 260 :: nat_lit 261 :: nat_lit 263 :: nat_lit 264 :: nat_lit 265 :: nat_lit 267 :: nat_lit 268 :: nat_lit 270 :: nat_lit 271 :: nat_lit 272 :: nat_lit 274 :: nat_lit 275 :: nat_lit 277 :: nat_lit 278 :: nat_lit 279 :: nat_lit 282 :: nat_lit 283 :: nat_lit 284 :: nat_lit 287 :: nat_lit 288 :: []
theorem ka (P : Params) : KA = (KK P).map (·.1) := by kernel_rfl
theorem all.tw17053130121481772103 : True := trivial
theorem all.tw10793401674749092046 : True := trivial
theorem all.tw4631590275013254457 : True := trivial
theorem all.tw17800948086707717751 : True := trivial
theorem all.tw17266974736607036637 : True := trivial
theorem all.tw5247617807198155932 : True := trivial
theorem all.tw397829171339713761 : True := trivial
theorem all.tw4818641064637329869 : True := trivial
theorem all.tw3357559941945735724 : True := trivial
theorem all.tw5002070824922625533 : True := trivial
theorem all.tw4244794441018138637 : True := trivial
theorem all.tw17360653242477243975 : True := trivial
theorem all.tw15671812041987572844 : True := trivial
theorem all.tw17523770736405063376 : True := trivial
theorem all.tw7317653850160689691 : True := trivial
theorem all.tw6946980451890315270 : True := trivial
theorem all.tw8486705261324164726 : True := trivial
theorem all.tw15618092478124507917 : True := trivial
theorem all.tw8968355716326206664 : True := trivial
theorem all.tw1081408078033650336 : True := trivial
theorem all.tw15242674970999812785 : True := trivial
theorem all.tw2863937026978368667 : True := trivial
theorem all.tw3630066180865283129 : True := trivial
theorem all.tw3282140407130366615 : True := trivial
theorem all.tw5718967094426423161 : True := trivial
theorem all.tw15248031165874397040 : True := trivial
theorem all.tw5615151462926910227 : True := trivial
theorem all.tw4613487602407358717 : True := trivial
theorem all.tw5213130599944360801 : True := trivial
theorem all.tw2690882624139800689 : True := trivial
theorem all.tw13320810954380615167 : True := trivial
theorem all.tw17846619120630023766 : True := trivial
theorem all.tw10677670038743541358 : True := trivial
theorem all.tw10323370424266482742 : True := trivial
theorem all.tw3586251380002802234 : True := trivial
theorem all.tw2997595627926355555 : True := trivial
theorem all.tw18199775284660576343 : True := trivial
theorem all.tw15849158762323818722 : True := trivial
theorem all.tw18440353960458814819 : True := trivial
theorem all.tw13266781569705452394 : True := trivial
theorem all.tw10649901628825759099 : True := trivial
theorem all.tw16779862611959906862 : True := trivial
theorem all.tw10696458614491829572 : True := trivial
theorem all.tw9111709882147129655 : True := trivial
theorem all.tw15214423783382671123 : True := trivial
theorem all.tw9833964599435250050 : True := trivial
theorem all.tw11961059351148515626 : True := trivial
theorem all.tw13423135486485445016 : True := trivial
theorem all.tw8711421783369662179 : True := trivial
theorem all.tw15298119835317213847 : True := trivial
theorem all.tw10393596885623623503 : True := trivial
theorem all.tw2531900633515307401 : True := trivial
theorem all.tw13057232943065969744 : True := trivial
theorem all.tw201708328148552895 : True := trivial
theorem all.tw10389294372677164839 : True := trivial
theorem all.tw18120535436291149196 : True := trivial
theorem all.tw9496632788025766839 : True := trivial
theorem all.tw9609096358927944886 : True := trivial
theorem all.tw12428716410969305734 : True := trivial
theorem all.tw7888970235439995493 : True := trivial
theorem all.tw62474882234398736 : True := trivial
theorem all.tw11736780227944870738 : True := trivial
theorem all.tw225468126006155290 : True := trivial
theorem all.tw5362506446432344171 : True := trivial
theorem all.tw12447178028490564450 : True := trivial
theorem all.tw2528524926150008927 : True := trivial
theorem all.tw2842816785644039571 : True := trivial
theorem all.tw14721843458392949018 : True := trivial
theorem all.tw14832659646925512398 : True := trivial
theorem all.tw9642480246203547912 : True := trivial
theorem all.tw9397017562490477109 : True := trivial
theorem all.tw16739844878667351699 : True := trivial
theorem all.tw15059917014629022394 : True := trivial
theorem all.tw7205895575636617080 : True := trivial
theorem all.tw15968848678202421516 : True := trivial
theorem all.tw9022205114861038860 : True := trivial
theorem all.tw1088589479996732829 : True := trivial
theorem all.tw9764797518255496921 : True := trivial
theorem all.tw8316665608867782698 : True := trivial
theorem all.tw16694476904998839863 : True := trivial
theorem all.tw11051709101105081487 : True := trivial
theorem all.tw13370487131934946175 : True := trivial
theorem all.tw1323426155142419162 : True := trivial
theorem all.tw2479237469882504799 : True := trivial
theorem all.tw12405882331826627501 : True := trivial
theorem all.tw9285670843845949155 : True := trivial
theorem all.tw16747629065405408630 : True := trivial
theorem all.tw15670805634923389295 : True := trivial
theorem all.tw9133701021851612117 : True := trivial
theorem all.tw8111057081096800836 : True := trivial
theorem all.tw3301142437192073055 : True := trivial
theorem all.tw1352723322627576488 : True := trivial
theorem all.tw16985421678458513482 : True := trivial
theorem all.tw7673000382406722879 : True := trivial
theorem all.tw3239841934065285509 : True := trivial
theorem all.tw7957553974722075628 : True := trivial
theorem all.tw18291108133853008933 : True := trivial
theorem all.tw8108845850537571710 : True := trivial
theorem all.tw1055662489953759920 : True := trivial
theorem all.tw2412950195513398651 : True := trivial
theorem all.tw14822214895437561417 : True := trivial
theorem all.tw8203446524507428889 : True := trivial
theorem all.tw18369841484834026144 : True := trivial
theorem all.tw14883968960377749705 : True := trivial
theorem all.tw14255635066184848650 : True := trivial
theorem all.tw13283931332471535325 : True := trivial
theorem all.tw11573567738276184859 : True := trivial
theorem all.tw18124843273605240230 : True := trivial
theorem all.tw15575253945988166476 : True := trivial
theorem all.tw4965207536615798822 : True := trivial
theorem all.tw3140866203998610647 : True := trivial
theorem all.tw4722931859811370693 : True := trivial
theorem all.tw1717485560449817402 : True := trivial
theorem all.tw5888963250497168203 : True := trivial
theorem all.tw14970210157437980911 : True := trivial
theorem all.tw3185962312253278316 : True := trivial
theorem all.tw1218705752920720458 : True := trivial
theorem all.tw282994513109133150 : True := trivial
theorem all.tw17260577670642009320 : True := trivial
theorem all.tw3832104259330054055 : True := trivial
theorem all.tw17103938086974590038 : True := trivial
theorem all.tw11446199593928302625 : True := trivial
theorem all.tw4645612490112672357 : True := trivial
theorem all.tw1327343985113690801 : True := trivial
theorem all.tw11273133048781285286 : True := trivial
theorem all.tw18111398738982083773 : True := trivial
theorem all.tw8096221689764760052 : True := trivial
theorem all.tw1075291646940621582 : True := trivial
theorem all.tw3804168243799541492 : True := trivial
theorem all.tw13132907815185506690 : True := trivial
theorem all.tw12304872625307995750 : True := trivial
theorem all.tw3292330881428724558 : True := trivial
theorem all.tw200952908838891698 : True := trivial
theorem all.tw15198316981687975854 : True := trivial
theorem all.tw17368901067910498557 : True := trivial
theorem all.tw6178583632892115015 : True := trivial
theorem all.tw5440085390276978291 : True := trivial
theorem all.tw15081044799308232511 : True := trivial
theorem all.tw15541118713287057729 : True := trivial
theorem all.tw17799138320485394500 : True := trivial
theorem all.tw7347661181068853997 : True := trivial
theorem all.tw13768760178465177502 : True := trivial
theorem all.tw2020152571437148077 : True := trivial
theorem all.tw7686242042924871683 : True := trivial
theorem all.tw785864177541677141 : True := trivial
theorem all.tw4786962568827011835 : True := trivial
theorem all.tw8543756510809834644 : True := trivial
theorem all.tw2406872565856053176 : True := trivial
theorem all.tw2627396739876165418 : True := trivial
theorem all.tw3949192924188805160 : True := trivial
theorem all.tw3443626597506986169 : True := trivial
theorem all.tw3211632039444477067 : True := trivial
theorem all.tw8670540905479144303 : True := trivial
theorem all.tw12540455083557110006 : True := trivial
theorem all.tw13185015893256467352 : True := trivial
theorem all.tw1291087626157917732 : True := trivial
theorem all.tw11116879363250112325 : True := trivial
theorem all.tw6888782338466086140 : True := trivial
theorem all.tw14648276583578725374 : True := trivial
theorem all.tw4515135292898193881 : True := trivial
theorem all.tw7785168158365692624 : True := trivial
theorem all.tw3737605839529819480 : True := trivial
theorem all.tw13042374122123996364 : True := trivial
theorem all.tw8778838089216779643 : True := trivial
theorem all.tw6405578165278201989 : True := trivial
theorem all.tw12784588452913835247 : True := trivial
theorem all.tw6262824470706933378 : True := trivial
theorem all.tw10681620039792923934 : True := trivial
theorem all.tw2750322548573693319 : True := trivial
theorem all.tw16457593375850944212 : True := trivial
theorem all.tw14954329004993159738 : True := trivial
theorem all.tw3448833343719912132 : True := trivial
theorem all.tw11784725038316003381 : True := trivial
theorem all.tw7654578318931278690 : True := trivial
theorem all.tw3477183460249832127 : True := trivial
theorem all.tw10277526245819850656 : True := trivial
theorem all.tw17106608494224303150 : True := trivial
theorem all.tw14849280956162755979 : True := trivial
theorem all.tw3153289441736887298 : True := trivial
theorem all.tw13270532327374429287 : True := trivial
theorem all.tw7899379758991183832 : True := trivial
theorem all.tw11448872678469705673 : True := trivial
theorem all.tw948912236611943856 : True := trivial
theorem all.tw17899929404969355535 : True := trivial
theorem all.tw596421839371371174 : True := trivial
theorem all.tw14204109254541194217 : True := trivial
theorem all.tw12180536567876656950 : True := trivial
theorem all.tw7062720368445256129 : True := trivial
theorem all.tw6393532188824929214 : True := trivial
theorem all.tw14647661154017913664 : True := trivial
theorem all.tw2235618017368140517 : True := trivial
theorem all.tw10331167273965929257 : True := trivial
theorem all.tw14310873030558110092 : True := trivial
theorem all.tw4835796080096327916 : True := trivial
theorem all.tw5032190731890765800 : True := trivial
theorem all.tw549974085012918235 : True := trivial
theorem all.tw17394647144938102915 : True := trivial
theorem all.tw7824222052329908659 : True := trivial
theorem all.tw8838840417862019655 : True := trivial
theorem all.tw11536899603342547138 : True := trivial
theorem all.tw2013830700403712203 : True := trivial
theorem all.tw13338274903956020161 : True := trivial
theorem all.tw9163178095015654352 : True := trivial
theorem all.tw14984247238865676675 : True := trivial
theorem all.tw10705108097460422218 : True := trivial
theorem all.tw3165661143165402847 : True := trivial
theorem all.tw9305783451064888827 : True := trivial
theorem all.tw15076152544538823220 : True := trivial
theorem all.tw3855190133869164905 : True := trivial
theorem all.tw8026366407565007962 : True := trivial
theorem all.tw5543487718492105064 : True := trivial
theorem all.tw6656463916972431421 : True := trivial
theorem all.tw4907521953547317329 : True := trivial
theorem all.tw7091565871241343341 : True := trivial
theorem all.tw10034031380863371641 : True := trivial
theorem all.tw12803817524326497440 : True := trivial
theorem all.tw6900727353157573822 : True := trivial
theorem all.tw16838893715234930207 : True := trivial
theorem all.tw17314943208353570444 : True := trivial
theorem all.tw17772726858579744284 : True := trivial
theorem all.tw5103548895888603802 : True := trivial
theorem all.tw14953325984322379511 : True := trivial
theorem all.tw247909236438806434 : True := trivial
theorem all.tw4899250830898163692 : True := trivial
theorem all.tw15176617289070330970 : True := trivial
theorem all.tw2711446468545577505 : True := trivial
theorem all.tw5555718599999811639 : True := trivial
theorem all.tw14124840197023413450 : True := trivial
theorem all.tw10252965763247687682 : True := trivial
theorem all.tw7916160540357663616 : True := trivial
theorem all.tw16084742875079473383 : True := trivial
theorem all.tw3020832510069240704 : True := trivial
theorem all.tw2496985677507960046 : True := trivial
theorem all.tw10658958392246782621 : True := trivial
theorem all.tw5750698986362780913 : True := trivial
theorem all.tw15888951733556516598 : True := trivial
theorem all.tw6648324312943424196 : True := trivial
theorem all.tw15105651507014581045 : True := trivial
theorem all.tw3835962111665225711 : True := trivial
theorem all.tw9743695723290020096 : True := trivial
theorem all.tw15451204947285891726 : True := trivial
theorem all.tw306535358961565008 : True := trivial
theorem all.tw1973140245219671491 : True := trivial
theorem all.tw9514876090768664877 : True := trivial
theorem all.tw15766547542915688834 : True := trivial
theorem all.tw13928513891281363954 : True := trivial
theorem all.tw8857914048673524507 : True := trivial
theorem all.tw8322597137079436277 : True := trivial
theorem all.tw15926794790568321017 : True := trivial
theorem all.tw16727532447511142511 : True := trivial
theorem all.tw15151187641303801864 : True := trivial
theorem all.tw4942582282674782268 : True := trivial
theorem all.tw6575127235232548739 : True := trivial
theorem all.tw15097909243742831393 : True := trivial
theorem all.tw9351078540693612215 : True := trivial
theorem all.tw5927061715728957476 : True := trivial
theorem all.tw14331890051309236264 : True := trivial
theorem all.tw4561188658046838414 : True := trivial
theorem all.tw17933553581876595578 : True := trivial
theorem all.tw1639981616727947583 : True := trivial
theorem all.tw16444899576201249432 : True := trivial
theorem all.tw16739083755425606968 : True := trivial
theorem all.tw14701963045326077753 : True := trivial
theorem all.tw8909644736058714228 : True := trivial
theorem all.tw11093295523969242068 : True := trivial
theorem all.tw4198835854440487071 : True := trivial
theorem all.tw44263415142174766 : True := trivial
theorem all.tw11488495728068971930 : True := trivial
theorem all.tw7234240908195146063 : True := trivial
theorem all.tw4847766330237268548 : True := trivial
set_option Elab.async true in
theorem all : PySem.Challenge.rw_ik0148_01.Holds := by
  w_on; o_law; o_head (kHook KK KA ka); (case hw => w_witness2)
  k_go0
  rename ((KK _).In _) => KX
  rename Top _ _ _ _ _ _ => T
  rename (Fr _ _ _ _) => F
  rename (News _ _ _ _) => N
  rename (Heap.IsList _ _ _) => hL
  rename (IntsAre _ _) => hI
  rename (¬ _ < _) => hlen
  rename (_ = Data.cell (bindC _ _ _ (Str.ofString "modules"))) => c1
  rename (_ = Data.cell (bindC _ _ _ (Str.ofString "names"))) => c2
  refine @law_top _ _ _ _ _ _ _ _ _ _ _ _ _ _ _ _ _ _ _ _ _ _ _ ?eb ?en ?es KX T ?H F N c1 c2 ?e1 hL hI ?hz ?ret
  case eb => rfl
  case en => rfl
  case es => rfl
  case H => exact ⟨rfl, Nat.le_of_ble_eq_true rfl, Nat.le_of_ble_eq_true rfl⟩
  case e1 => rfl
  case hz => omega
  case ret =>
    intro h' tk' dr m' F'
    clear F N
    wrow_close
end TFIN
end Mine

theorem PySem.Challenge.cw_ik0148_01_holds : PySem.Challenge.rw_ik0148_01.Holds :=
  Mine.all
